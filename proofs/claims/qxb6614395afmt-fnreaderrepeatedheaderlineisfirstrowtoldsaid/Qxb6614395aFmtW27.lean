import Derived.Test.Qxb6614395aFmtW11
set_option linter.unusedSimpArgs false
set_option linter.unusedVariables false
namespace Go.Proofs.Qxb6614395aFmt
open Go Go.RowKit Go.Deep Go.Extern.Stop Go.Stop Go.Extern
attribute [local go_sem] str_size str_get str_extract str_toList str_append

theorem snew_calls (T : List UInt8) (w : World) : Calls Tryf.prog 26 #[.string (str T)] w fun e w' => e = .returned (.pointer (some ⟨w.heap.size, 0, none⟩)) ∧ SAt w.heap.size 78 (srC T 0) w' ∧ Only (fun _ => False) w w' ∧ w'.heap.size = w.heap.size + 1 := by
  go_enter Tryf.func26, Tryf.ntmps26
  go_wp2_with fail
  go_ret
  exact ⟨rfl, SAt.new w (srC T 0) 78, (Only.refl _ w).alloc _, by rw [nblk_alloc]⟩

/-- A bufio.Reader as it is made: zero. -/
def brZ : List Value := [.slice none 0 0, .nilIface, .int .i64 0, .int .i64 0, .nilIface, .int .i64 0, .int .i64 0]
set_option maxHeartbeats 800000 in
theorem reset_calls (a b : Nat) (t : TypeId) (v : Value) (w : World) (hc : SAt a 117 brZ w) :
    Calls Tryf.prog 64 #[.pointer (some ⟨a, 0, none⟩), .slice (some ⟨b, 0, none⟩) 4096 4096, .iface t v] w fun e w' => e = .returned (.tuple #[]) ∧ SAt a 117 [.slice (some ⟨b, 0, none⟩) 4096 4096, .iface t v, .int .i64 0, .int .i64 0, .nilIface, .int .i64 (-1), .int .i64 (-1)] w' ∧ Only (fun k => k = a) w w' ∧ w'.heap.size = w.heap.size := by
  have c0 := hc.cell (i := 0) rfl
  have c1 := hc.cell (i := 1) rfl
  have c2 := hc.cell (i := 2) rfl
  have c3 := hc.cell (i := 3) rfl
  have c4 := hc.cell (i := 4) rfl
  have c5 := hc.cell (i := 5) rfl
  have c6 := hc.cell (i := 6) rfl
  have f0 := fun i => hc.frozen i
  go_enter Tryf.func64, Tryf.ntmps64
  go_wp2_with fail
  go_end0
  refine ⟨rfl, ?_, ?_, ?_⟩
  · exact ((((((hc.set 0 _).set 1 _).set 2 _).set 3 _).set 4 _).set 5 _).set' 6 _ (by simp [brZ])
  · exact (((((((Only.refl (fun k => k = a) w).setCell (.inl rfl) _).setCell (.inl rfl) _).setCell (.inl rfl) _).setCell (.inl rfl) _).setCell (.inl rfl) _).setCell (.inl rfl) _).setCell (.inl rfl) _
  · simp [nblk_setCell]
theorem ta_no (v : Value) (w : World) : (Instr.typeAssert (.iface 42 v) 66 56 true).run Tryf.prog w = .ok (.tuple #[.pointer none, .bool false]) w := by kernel_rfl
theorem ta_yes (v : Value) (w : World) : (Instr.typeAssert (.iface 56 v) 66 56 true).run Tryf.prog w = .ok (.tuple #[v, .bool true]) w := by kernel_rfl
theorem infoU8 : (Tryf.prog.info? 5).map (fun i => (i.zero, i.size, i.bytes)) = some (some (.int .u8 0), 1, 1) := by kernel_rfl
theorem make_bytes (k : Nat) (hk : k ≤ 1000000) (w : World) : (Instr.makeSlice 36 (.int .i64 (k : Int)) (.int .i64 (k : Int))).run Tryf.prog w = .ok (.slice (some ⟨w.heap.size, 0, none⟩) k k) (w.alloc (.cells (madeCells #[.int .u8 0] k) 5)) :=
  run_make_row' 36 5 (.int .u8 0) 1 Tryf.underlying36 infoU8 rfl .i64 .i64 k (by omega) (by omega) w
theorem made_bytes (k : Nat) : madeCells #[.int .u8 0] k = (bcells (List.replicate k 0)).toArray := by
  apply Array.ext'
  simp only [madeCells, bcells, List.map_replicate, Array.toList_map, Array.toList_range]
  rw [List.eq_replicate_iff]
  refine ⟨by simp, fun b hb => ?_⟩
  simp only [List.mem_map] at hb
  obtain ⟨x, -, rfl⟩ := hb
  have : x % (#[Value.int .u8 0] : Array Value).size = 0 := Nat.mod_one x
  rw [this]
  rfl
theorem make_buf (w : World) : (Instr.makeSlice 36 (.int .i64 4096) (.int .i64 4096)).run Tryf.prog w = .ok (.slice (some ⟨w.heap.size, 0, none⟩) 4096 4096) (w.alloc (.cells (madeCells #[.int .u8 0] 4096) 5)) := make_bytes 4096 (by omega) w
set_option maxHeartbeats 800000 in
set_option maxRecDepth 100000 in
theorem brnew_calls (g : Nat) (w : World) (hg : w.heap.size = g + 2) :
    Calls Tryf.prog 44 #[.iface 42 (.pointer (some ⟨g + 1, 0, none⟩)), .int .i64 4096] w fun e w' => e = .returned (.pointer (some ⟨g + 2, 0, none⟩)) ∧ Buf g 0 [] .nilIface w' ∧ Only (fun _ => False) w w' ∧ w'.heap.size = g + 4 := by
  have ta := ta_no
  have mk := make_buf
  have h1 : SAt (g + 2) 117 brZ (w.alloc (.cells brZ.toArray 117)) := hg ▸ SAt.new w brZ 117
  have hsz : (w.alloc (.cells brZ.toArray 117)).heap.size = g + 3 := by rw [nblk_alloc, hg]
  have h2 := h1.alloc (.cells (madeCells #[.int .u8 0] 4096) 5)
  have cR := reset_calls (g + 2) (g + 3) 42 (.pointer (some ⟨g + 1, 0, none⟩)) _ h2
  have H2 : Hid (SAt (g + 3) 5 (bcells (List.replicate 4096 0)) ((w.alloc (.cells brZ.toArray 117)).alloc (.cells (madeCells #[.int .u8 0] 4096) 5))) := by
    rw [made_bytes, ← hsz]; exact SAt.new _ _ _
  have HO : Hid (Only (fun _ => False) w ((w.alloc (.cells brZ.toArray 117)).alloc (.cells (madeCells #[.int .u8 0] 4096) 5))) := ((Only.refl _ w).alloc _).alloc _
  have hsz2 : ((w.alloc (.cells brZ.toArray 117)).alloc (.cells (madeCells #[.int .u8 0] 4096) 5)).heap.size = g + 4 := by rw [nblk_alloc, hsz]
  have HZ := hid_of hsz2
  clear h1 h2 hsz2
  simp only [brZ] at hsz cR
  go_enter Tryf.func44, Tryf.ntmps44
  go_wp2_with (go_at_call 64; go_fit cR; rintro e w1 ⟨rfl, hs, ho, hz⟩)
  go_ret
  refine ⟨rfl, ⟨List.replicate 4096 0, -1, -1, by simp, by simp, by simp, ho.sat H2.out (by omega), hs⟩, HO.out.trans (ho.mono (S' := fun k => k = g + 2) (fun _ _ h => h)) (fun k hk h => by omega), hz.trans HZ.out⟩
theorem brnew33_calls (g : Nat) (w : World) (hg : w.heap.size = g + 2) :
    Calls Tryf.prog 33 #[.iface 42 (.pointer (some ⟨g + 1, 0, none⟩))] w fun e w' => e = .returned (.pointer (some ⟨g + 2, 0, none⟩)) ∧ Buf g 0 [] .nilIface w' ∧ Only (fun _ => False) w w' ∧ w'.heap.size = g + 4 := by
  have c := brnew_calls g w hg
  go_enter Tryf.func33, Tryf.ntmps33
  go_wp2_with (go_at_call 44; go_fit c; rintro e w1 ⟨rfl, h1, h2, h3⟩)
  go_ret
  exact ⟨rfl, h1, h2, h3⟩
/-- bufio.NewReader of a bufio.Reader that is great enough: itself. -/
theorem brsame_calls (g : Nat) (w : World) (hb : Buf g 0 [] .nilIface w) :
    Calls Tryf.prog 44 #[.iface 56 (.pointer (some ⟨g + 2, 0, none⟩)), .int .i64 4096] w fun e w' => e = .returned (.pointer (some ⟨g + 2, 0, none⟩)) ∧ w' = w := by
  have ta := ta_yes
  obtain ⟨B, lb, ls, -, -, -, -, h⟩ := hb
  have c0 := h.cell (i := 0) rfl
  clear h
  go_enter Tryf.func44, Tryf.ntmps44
  go_wp2_with fail
  go_ret
  exact ⟨rfl, rfl⟩
theorem brsame33_calls (g : Nat) (w : World) (hb : Buf g 0 [] .nilIface w) :
    Calls Tryf.prog 33 #[.iface 56 (.pointer (some ⟨g + 2, 0, none⟩))] w fun e w' => e = .returned (.pointer (some ⟨g + 2, 0, none⟩)) ∧ w' = w := by
  have c := brsame_calls g w hb
  go_enter Tryf.func33, Tryf.ntmps33
  go_wp2_with (go_at_call 44; go_fit c; rintro e w1 ⟨rfl, rfl⟩)
  go_ret
  exact ⟨rfl, rfl⟩
/-- A csv.Reader as it is made, then set. -/
def cv0 : CV := ⟨0, 0, .slice none 0 0, .slice none 0 0, .slice none 0 0, .slice none 0 0, .slice none 0 0⟩
def csvZ (g : Nat) : List Value := [.int .i32 44, .int .i32 0, .int .i64 0, .bool false, .bool false, .bool false, .bool false, .pointer (some ⟨g + 2, 0, none⟩), .int .i64 0, .int .i64 0, .slice none 0 0, .slice none 0 0, .slice none 0 0, .slice none 0 0, .slice none 0 0]
set_option maxHeartbeats 800000 in
theorem csvnew_calls (g : Nat) (w : World) (hg : w.heap.size = g + 4) (hb : Buf g 0 [] .nilIface w) :
    Calls Tryf.prog 34 #[.iface 56 (.pointer (some ⟨g + 2, 0, none⟩))] w fun e w' => e = .returned (.pointer (some ⟨g + 4, 0, none⟩)) ∧ SAt (g + 4) 76 (csvZ g) w' ∧ Only (fun _ => False) w w' ∧ w'.heap.size = g + 5 := by
  have c := brsame33_calls g w hb
  clear hb
  go_enter Tryf.func34, Tryf.ntmps34
  go_wp2_with (go_at_call 33; go_fit c; rintro e w1 ⟨rfl, rfl⟩)
  go_ret
  exact ⟨rfl, hg ▸ SAt.new w1 (csvZ g) 76, (Only.refl _ w1).alloc _, by rw [nblk_alloc, hg]⟩
/-- The reader of a table, as it is made. -/
def tabC (g : Nat) (what hd : Value) (hh : Bool) : List Value := [.pointer (some ⟨g + 2, 0, none⟩), .pointer (some ⟨g + 4, 0, none⟩), what, hd, .bool hh]
structure Made (g : Nat) (T : List UInt8) (what hd : Value) (w : World) : Prop where
  buf : Buf g 0 [] .nilIface w
  run : RunS g (0, false) T w
  csv : SAt (g + 4) 76 (csvC g cv0) w
  tab : SAt (g + 5) 59 (tabC g what hd false) w
set_option maxHeartbeats 1600000 in
set_option maxRecDepth 20000 in
theorem new_calls (g : Nat) (T : List UInt8) (what : ByteArray) (p : Option Addr) (n cap : Nat) (w : World) (hg : w.heap.size = g) (hT : T.length ≤ 1000000000) :
    Calls Tryf.prog 10 #[.string (str T), .string what, .slice p n cap] w fun e w' => e = .returned (.pointer (some ⟨g + 5, 0, none⟩)) ∧ Made g T (.string what) (.slice p n cap) w' ∧ Only (fun _ => False) w w' ∧ w'.heap.size = g + 6 := by
  have cN : ∀ w1 : World, SAt g 78 (srC T 0) w1 → w1.heap.size = g + 1 → Only (fun _ => False) w w1 → Calls Tryf.prog 25 #[.iface 54 (.pointer (some ⟨g, 0, none⟩)), .string what, .slice p n cap] w1 fun e w' => e = .returned (.pointer (some ⟨g + 5, 0, none⟩)) ∧ Made g T (.string what) (.slice p n cap) w' ∧ Only (fun _ => False) w w' ∧ w'.heap.size = g + 6 := by
    intro w1 h1 hz1 ho1
    have HO1 := hid_of ho1
    have h2 : SAt (g + 1) 68 (rlC g 1 1 (0, false) .nilIface) (w1.alloc (.cells (rlC g 1 1 (0, false) .nilIface).toArray 68)) := hz1 ▸ SAt.new w1 _ _
    have h1' := h1.alloc (.cells (rlC g 1 1 (0, false) .nilIface).toArray 68)
    have cB := brnew33_calls g (w1.alloc (.cells (rlC g 1 1 (0, false) .nilIface).toArray 68)) (by rw [nblk_alloc, hz1])
    have HO2 : Hid (Only (fun _ => False) w (w1.alloc (.cells (rlC g 1 1 (0, false) .nilIface).toArray 68))) := HO1.out.alloc _
    have H1 := hid_of h1'
    have H2 := hid_of h2
    have HG := hid_of hg
    clear h1 h1' h2 ho1 HO1 hg
    simp only [rlC] at cB
    go_enter Tryf.func25, Tryf.ntmps25
    go_upto_region 2 with (go_at_call 33; go_fit cB; rintro e w2 ⟨rfl, hb, ho, hz⟩)
    have cC := csvnew_calls g w2 hz hb
    have HO3 : Hid (Only (fun _ => False) w w2) := HO2.out.trans ho (fun _ _ h => h)
    have s1 : SAt g 78 (srC T 0) w2 := ho.sat H1.out (fun h => h)
    have s2 : SAt (g + 1) 68 (rlC g 1 1 (0, false) .nilIface) w2 := ho.sat H2.out (fun h => h)
    have S1 := hid_of s1
    have S2 := hid_of s2
    have HB := hid_of hb
    clear hb ho s1 s2 HO2 H1 H2
    go_upto_region 3 with (go_at_call 34; go_fit cC; rintro e w3 ⟨rfl, hc, ho3, hz3⟩)
    have d0 := hc.cell (i := 2) rfl
    have d1 := hc.cell (i := 5) rfl
    have f0 := hc.frozen 2
    have f1 := hc.frozen 5
    have HC := hid_of hc
    have HO4 : Hid (Only (fun _ => False) w w3) := HO3.out.trans ho3 (fun _ _ h => h)
    have HS3 : Hid (SAt g 78 (srC T 0) w3 ∧ SAt (g + 1) 68 (rlC g 1 1 (0, false) .nilIface) w3 ∧ Buf g 0 [] .nilIface w3) := 
      ⟨ho3.sat S1.out (fun h => h), ho3.sat S2.out (fun h => h), HB.out.only ho3 (fun h => h) (fun h => h)⟩
    clear cC hc ho3
    go_wp2_with fail
    go_ret
    have ho : Only (fun k => k = g + 4) w3 ((w3.setCell ⟨g + 4, 2, none⟩ (.int .i64 (-1))).setCell ⟨g + 4, 5, none⟩ (.bool true)) := ((Only.refl (fun k => k = g + 4) w3).setCell (.inl rfl) _).setCell (.inl rfl) _
    have hz4 : ((w3.setCell ⟨g + 4, 2, none⟩ (.int .i64 (-1))).setCell ⟨g + 4, 5, none⟩ (.bool true)).heap.size = g + 5 := by simp [nblk_setCell, hz3]
    have hc4 : SAt (g + 4) 76 (csvC g cv0) ((w3.setCell ⟨g + 4, 2, none⟩ (.int .i64 (-1))).setCell ⟨g + 4, 5, none⟩ (.bool true)) := (HC.out.set 2 _).set' 5 _ (by simp [csvZ, csvC, cv0])
    have hn := SAt.new ((w3.setCell ⟨g + 4, 2, none⟩ (.int .i64 (-1))).setCell ⟨g + 4, 5, none⟩ (.bool true)) (tabC g (.string what) (.slice p n cap) false) 59
    rw [hz4] at hn
    obtain ⟨a1, a2, a3⟩ := HS3.out
    have hx : Only (fun k => k = g + 4) w3 (((w3.setCell ⟨g + 4, 2, none⟩ (.int .i64 (-1))).setCell ⟨g + 4, 5, none⟩ (.bool true)).alloc (.cells (tabC g (.string what) (.slice p n cap) false).toArray 59)) := ho.alloc _
    refine ⟨rfl, ⟨a3.only hx (by omega) (by omega), ⟨T, 0, 1, 1, hT, by simp, hx.sat a1 (by omega), hx.sat a2 (by omega)⟩, hc4.alloc _, hn⟩, ?_, by rw [nblk_alloc, hz4]⟩
    refine HO4.out.trans hx (fun k hk h => ?_)
    have := HG.out
    omega
  have cS := snew_calls T w
  rw [hg] at cS
  go_enter Tryf.func10, Tryf.ntmps10
  go_wp2_with (first | (go_at_call 26; go_fit cS; rintro e w1 ⟨rfl, x1, x2, x3⟩; have cN1 := cN w1 x1 x3 x2) | (go_at_call 25; go_fit cN1; rintro e w2 ⟨rfl, h1, h2, h3⟩))
  go_ret
  exact ⟨rfl, h1, h2, h3⟩
end Go.Proofs.Qxb6614395aFmt
