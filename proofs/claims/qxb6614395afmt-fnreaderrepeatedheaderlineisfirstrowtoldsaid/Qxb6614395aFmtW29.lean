import Derived.Test.Qxb6614395aFmtW28
import Derived.Test.Qxb6614395aFmtL5
set_option linter.unusedSimpArgs false
set_option linter.unusedVariables false
namespace Go.Proofs.Qxb6614395aFmt
open Go Go.RowKit Go.Deep Go.Extern.Stop Go.Stop Go.Extern
attribute [local go_sem] str_size str_get str_extract str_toList str_append

theorem append_str (base : Nat) (w : World) (ty : TypeId) (v : Value) (n : Nat) (xs : List Value) (hown : w.ownsRow base 9 1 v n xs) (b c : Nat) (x : ByteArray) (hx : w.cell? ⟨b, 0, none⟩ = some (.string x)) (hn : n + 1 ≤ 1000000000) (hbase : base ≤ w.heap.size) :
    ∃ v' w', (Builtin.append_ #[22, 22] ty #[v, .slice (some ⟨b, 0, none⟩) 1 c]).run Tryf.prog w = .ok v' w' ∧ AppPost base 9 1 v (n + 1) (xs ++ [.string x]) w v' w' := by
  refine append_any Tryf.underlying22 infoS rfl (by decide) (by decide) base w ty v n xs hown ⟨b, 0, none⟩ 1 c [.string x] (by simp) ?_ (by simp; rfl) hn hbase
  intro j u hu
  match j, hu with
  | 0, hu =>
    simp at hu
    subst hu
    simpa [Addr.add] using hx

/-- One string more behind a row that is owned, the row's elements told as texts. -/
theorem app_str {w wr : World} {v : Value} {out : List (List UInt8)} (x : List UInt8) (ty : TypeId) (ho : Only (fun _ => False) w wr) (hown : wr.ownsRow w.heap.size 9 1 v out.length (strC out)) (hn : out.length + 1 ≤ 1000000000) :
    ∃ b cap w', (Builtin.append_ #[22, 22] ty #[v, .slice (some ⟨wr.heap.size, 0, none⟩) 1 1]).run Tryf.prog (wr.alloc (.cells #[.string (str x)] 9)) = .ok (.slice (some ⟨b, 0, none⟩) (out.length + 1) cap) w' ∧
      w'.ownsRow w.heap.size 9 1 (.slice (some ⟨b, 0, none⟩) (out.length + 1) cap) (out ++ [x]).length (strC (out ++ [x])) ∧ Only (fun _ => False) w w' := by
  have h1 : SAt wr.heap.size 9 [.string (str x)] (wr.alloc (.cells #[.string (str x)] 9)) := SAt.new wr _ _
  have ho1 : Only (fun _ => False) wr (wr.alloc (.cells #[.string (str x)] 9)) := (Only.refl _ wr).alloc _
  obtain ⟨v', w', hr, hw, hg⟩ := append_str w.heap.size _ ty v out.length (strC out) (ownsRow_only hown ho1 (fun _ _ h => h)) wr.heap.size 1 (str x) (h1.cell (i := 0) rfl) hn (by have := ho.size; rw [nblk_alloc]; omega)
  obtain ⟨b, cap, rfl, -, -⟩ := hw.form (by omega)
  refine ⟨b, cap, w', hr, ?_, ?_⟩
  · have e : strC (out ++ [x]) = strC out ++ [.string (str x)] := by simp [strC]
    rw [e, List.length_append]
    exact hw
  · exact hg.only (ho.trans ho1 (fun _ _ h => h)) (fun k hk => .inr (hown.lt k hk).1)

theorem own_nil (w : World) (base e size : Nat) : w.ownsRow base e size (.slice none 0 0) 0 [] := World.ownsRow_nil _ _ _ _

set_option maxHeartbeats 1600000 in
set_option maxRecDepth 20000 in
/-- zzSplitComma. -/
theorem split_calls (s : List UInt8) (w : World) (hs : s.length ≤ 1000000) :
    Calls Tryf.prog 24 #[.string (str s)] w fun e w' => ∃ b cap, e = .returned (.slice (some ⟨b, 0, none⟩) (spA [] s).length cap) ∧ w'.ownsRow w.heap.size 9 1 (.slice (some ⟨b, 0, none⟩) (spA [] s).length cap) (spA [] s).length (strC (spA [] s)) ∧ Only (fun _ => False) w w' := by
  obtain ⟨R, hR⟩ : ∃ R, spA [] s = R := ⟨_, rfl⟩
  rw [hR]
  have HR := hid_of hR
  clear hR
  go_enter Tryf.func24, Tryf.ntmps24
  go_upto_region 4 with fail
  go_loopg [3, 4, 5] (s.length + 1) (fun f v3 v4 v5 wr => ∃ (i st : Nat) (out : List (List UInt8)), v4 = .int .i64 (st : Int) ∧ v5 = .int .i64 (i : Int) ∧ i ≤ s.length ∧ s.length < f + i ∧ st ≤ i ∧ Hid (out ++ spA ((s.take i).drop st) (s.drop i) = R) ∧ out.length ≤ i ∧ Hid (wr.ownsRow w.heap.size 9 1 v3 out.length (strC out)) ∧ Hid (Only (fun _ => False) w wr) ∧ (v3 = .slice none 0 0 ∧ out = [] ∨ ∃ b cap, v3 = .slice (some ⟨b, 0, none⟩) out.length cap))
  case atStart => exact ⟨0, 0, [], rfl, rfl, by omega, by omega, by omega, by simpa using HR, by simp, own_nil _ _ _ _, Only.refl _ _, .inl ⟨rfl, rfl⟩⟩
  case round =>
    obtain ⟨i, st, out, rfl, rfl, hi, hif, hst, he, hol, how, ho, hv⟩ := hrel
    obtain ⟨f, rfl⟩ : ∃ f, gk = f + 1 := ⟨gk - 1, by omega⟩
    by_cases hlt : i < s.length
    · have hdrop : s.drop i = s[i] :: s.drop (i + 1) := List.drop_eq_getElem_cons hlt
      by_cases hcm : s[i] = 44
      · have hc' : ((s[i].toNat : Int)) = 44 := by rw [hcm]; rfl
        obtain ⟨b, cap, w2, hrun, hown2, ho2⟩ := app_str ((s.take i).drop st) 22 ho.out how.out (by omega)
        have i1 : (st : Int) ≤ (i : Int) := by omega
        have HOW2 := hid_of hown2
        have HO2 := hid_of ho2
        have HE : Hid (out ++ [(s.take i).drop st] ++ spA [] (s.drop (i + 1)) = R) := by
          show _ = _
          have := he.out
          rw [hdrop, spA, if_pos hcm] at this
          rw [← this]
          simp
        clear hown2 ho2 how he
        rcases hv with ⟨rfl, hv2⟩ | ⟨b0, cap0, rfl⟩
        · clear hv2
          go_wp2_with (at_builtin; refine wpl_append_run rfl _ _ 22 rfl _ _ rfl rfl (.slice (some ⟨b, 0, none⟩) (out.length + 1) cap) w2 hrun ?_)
          go_roundg f
          case measure => omega
          case rel => exact ⟨i + 1, i + 1, out ++ [(s.take i).drop st], rfl, rfl, by omega, by omega, by omega, by simpa using HE, by simp; omega, HOW2, HO2, .inr ⟨b, cap, by simp⟩⟩
        · go_wp2_with (at_builtin; refine wpl_append_run rfl _ _ 22 rfl _ _ rfl rfl (.slice (some ⟨b, 0, none⟩) (out.length + 1) cap) w2 hrun ?_)
          go_roundg f
          case measure => omega
          case rel => exact ⟨i + 1, i + 1, out ++ [(s.take i).drop st], rfl, rfl, by omega, by omega, by omega, by simpa using HE, by simp; omega, HOW2, HO2, .inr ⟨b, cap, by simp⟩⟩
      · have hc' : ¬ ((s[i].toNat : Int)) = 44 := fun h => hcm (by apply UInt8.toNat.inj; simpa using (by exact_mod_cast h : s[i].toNat = 44))
        have hc2 : ((s[i].toNat : Int) == 44) = false := by simpa using hc'
        have HE : Hid (out ++ spA ((s.take (i + 1)).drop st) (s.drop (i + 1)) = R) := by
          show _ = _
          have := he.out
          rw [hdrop, spA, if_neg hcm] at this
          rw [← this]
          have e : s.take (i + 1) = s.take i ++ [s[i]] := by rw [List.take_add_one, List.getElem?_eq_getElem hlt]; rfl
          rw [e, List.drop_append_of_le_length (by rw [List.length_take]; omega)]
        clear he
        go_wp2_with fail
        go_roundg f
        case measure => omega
        case rel => exact ⟨i + 1, st, out, rfl, rfl, by omega, by omega, by omega, HE, by omega, how, ho, hv⟩
    · have hi' : i = s.length := by omega
      have HE : Hid (out ++ [s.drop st] = R) := by
        show _ = _
        have := he.out
        rw [hi', List.drop_length, List.take_length, spA] at this
        exact this
      subst hi'
      obtain ⟨b, cap, w2, hrun, hown2, ho2⟩ := app_str (s.drop st) 22 ho.out how.out (by omega)
      have HOW2 := hid_of hown2
      have HO2 := hid_of ho2
      have i1 : (st : Int) ≤ (s.length : Int) := by omega
      have htl : s.take s.length = s := List.take_length
      have hfull : ((s.take s.length).drop st) = s.drop st := by rw [htl]
      clear hown2 ho2 how he
      rcases hv with ⟨rfl, hv2⟩ | ⟨b0, cap0, rfl⟩
      · try clear hv2
        go_wp2_with (at_builtin; refine wpl_append_run rfl _ _ 22 rfl _ _ rfl rfl (.slice (some ⟨b, 0, none⟩) (out.length + 1) cap) w2 hrun ?_)
        go_ret
        have hl : R.length = out.length + 1 := by rw [← HE.out]; simp
        refine ⟨b, cap, by rw [hl]; rfl, ?_, HO2.out⟩
        have h9 := HOW2.out
        rw [HE.out] at h9
        rw [hl] at h9 ⊢
        exact h9
      · try clear hv2
        go_wp2_with (at_builtin; refine wpl_append_run rfl _ _ 22 rfl _ _ rfl rfl (.slice (some ⟨b, 0, none⟩) (out.length + 1) cap) w2 hrun ?_)
        go_ret
        have hl : R.length = out.length + 1 := by rw [← HE.out]; simp
        refine ⟨b, cap, by rw [hl]; rfl, ?_, HO2.out⟩
        have h9 := HOW2.out
        rw [HE.out] at h9
        rw [hl] at h9 ⊢
        exact h9

def mark3 : List UInt8 := [239, 187, 191]
theorem toNat_eq {b : UInt8} {n : Nat} (hn : n < 256) : (b.toNat : Int) = (n : Int) ↔ b = UInt8.ofNat n := by
  constructor
  · intro h
    apply UInt8.toNat.inj
    have h1 : b.toNat = n := by exact_mod_cast h
    rw [h1]; simp; omega
  · rintro rfl
    simp
    omega
set_option maxHeartbeats 800000 in
set_option maxRecDepth 20000 in
/-- zzStartsWithMark. -/
theorem mark_calls (s : List UInt8) (w : World) : Calls Tryf.prog 14 #[.string (str s)] w fun e w' => (∃ bb, e = .returned (.bool bb) ∧ (bb = true ↔ s.take 3 = mark3)) ∧ w' = w := by
  match s with
  | [] =>
    go_enter Tryf.func14, Tryf.ntmps14
    go_wp2_with fail
    go_ret
    exact ⟨⟨_, rfl, by decide⟩, rfl⟩
  | [a] =>
    go_enter Tryf.func14, Tryf.ntmps14
    go_wp2_with fail
    go_ret
    exact ⟨⟨_, rfl, by simp [mark3]⟩, rfl⟩
  | [a, b] =>
    go_enter Tryf.func14, Tryf.ntmps14
    go_wp2_with fail
    go_ret
    exact ⟨⟨_, rfl, by simp [mark3]⟩, rfl⟩
  | a :: b :: c :: t =>
    have hlen : (3 : Int) ≤ ((a :: b :: c :: t).length : Int) := by simp only [List.length_cons]; omega
    have E : ((a :: b :: c :: t).take 3 = mark3) ↔ ((a.toNat : Int) = 239 ∧ (b.toNat : Int) = 187 ∧ (c.toNat : Int) = 191) := by
      have h1 := toNat_eq (b := a) (n := 239) (by omega)
      have h2 := toNat_eq (b := b) (n := 187) (by omega)
      have h3 := toNat_eq (b := c) (n := 191) (by omega)
      simp only [mark3, List.take_succ_cons, List.take_zero, List.cons.injEq, and_true]
      constructor
      · rintro ⟨rfl, rfl, rfl⟩; exact ⟨rfl, rfl, rfl⟩
      · rintro ⟨x1, x2, x3⟩; exact ⟨h1.1 x1, h2.1 x2, h3.1 x3⟩
    have HE := hid_of E
    clear E
    by_cases h1 : (a.toNat : Int) = 239
    · by_cases h2 : (b.toNat : Int) = 187
      · by_cases h3 : (c.toNat : Int) = 191
        · have H : Hid ((a :: b :: c :: t).take 3 = mark3) := HE.out.2 ⟨h1, h2, h3⟩
          go_enter Tryf.func14, Tryf.ntmps14
          go_wp2_with fail
          go_ret
          exact ⟨⟨true, rfl, fun _ => H.out, fun _ => rfl⟩, rfl⟩
        · have H : Hid (¬ (a :: b :: c :: t).take 3 = mark3) := fun h => h3 (HE.out.1 h).2.2
          have h3' : ((c.toNat : Int) == 191) = false := by simpa using h3
          go_enter Tryf.func14, Tryf.ntmps14
          go_wp2_with fail
          go_ret
          exact ⟨⟨false, rfl, by simp, fun h => absurd h H.out⟩, rfl⟩
      · have H : Hid (¬ (a :: b :: c :: t).take 3 = mark3) := fun h => h2 (HE.out.1 h).2.1
        have h2' : ((b.toNat : Int) == 187) = false := by simpa using h2
        go_enter Tryf.func14, Tryf.ntmps14
        go_wp2_with fail
        go_ret
        exact ⟨⟨false, rfl, by simp, fun h => absurd h H.out⟩, rfl⟩
    · have H : Hid (¬ (a :: b :: c :: t).take 3 = mark3) := fun h => h1 (HE.out.1 h).1
      have h1' : ((a.toNat : Int) == 239) = false := by simpa using h1
      go_enter Tryf.func14, Tryf.ntmps14
      go_wp2_with fail
      go_ret
      exact ⟨⟨false, rfl, by simp, fun h => absurd h H.out⟩, rfl⟩

/-- A bool, and the world as it was. -/
def BoolPost (xs : List (List UInt8)) (w : World) (e : Ending) (w' : World) : Prop := (∃ bb, e = .returned (.bool bb) ∧ (bb = true → ∀ x ∈ xs, x.length ≤ 1048576)) ∧ w' = w
/-- What the argument header is. -/
def HArg (w : World) (v : Value) (xs : List (List UInt8)) : Prop :=
  (v = .slice none 0 0 ∧ xs = []) ∨ ∃ b o sp cap, v = .slice (some ⟨b, o, sp⟩) xs.length cap ∧ (xs.length = 0 ∨ sp = none) ∧ Strs w b o xs ∧ xs.length ≤ cap ∧ cap ≤ 9223372036854775807 ∧ ∀ x ∈ xs, x.length ≤ 9223372036854775807
set_option maxHeartbeats 1600000 in
set_option maxRecDepth 20000 in
/-- zzBytes of law 3. -/
theorem bytes_calls (d s : List UInt8) (v : Value) (xs : List (List UInt8)) (w : World) (hd : d.length ≤ 9223372036854775807) (hs : s.length ≤ 9223372036854775807) (hv : HArg w v xs) :
    Calls Tryf.prog 7 #[.string (str d), .string (str s), v] w (BoolPost xs w) := by
  by_cases h1 : (1048576 : Int) < (d.length : Int)
  · rcases hv with ⟨rfl, rfl⟩ | ⟨b, o, sp, cap, rfl, hsp, hst, hc, hc2, hx⟩ <;>
    · go_enter Tryf.func7, Tryf.ntmps7
      go_wp2_with fail
      go_ret
      exact ⟨⟨false, rfl, by simp⟩, rfl⟩
  · by_cases h2 : (1048576 : Int) < (s.length : Int)
    · rcases hv with ⟨rfl, rfl⟩ | ⟨b, o, sp, cap, rfl, hsp, hst, hc, hc2, hx⟩ <;>
      · go_enter Tryf.func7, Tryf.ntmps7
        go_wp2_with fail
        go_ret
        exact ⟨⟨false, rfl, by simp⟩, rfl⟩
    · by_cases h3 : (1048576 : Int) < (d.length : Int) + (s.length : Int)
      · rcases hv with ⟨rfl, rfl⟩ | ⟨b, o, sp, cap, rfl, hsp, hst, hc, hc2, hx⟩ <;>
        · go_enter Tryf.func7, Tryf.ntmps7
          go_wp2_with fail
          go_ret
          exact ⟨⟨false, rfl, by simp⟩, rfl⟩
      · rcases hv with ⟨rfl, rfl⟩ | ⟨b, o, sp, cap, rfl, hsp, hst, hc, hc2, hx⟩
        · go_enter Tryf.func7, Tryf.ntmps7
          go_upto_region 18 with fail
          go_loopg [7, 8] 1 (fun f v7 v8 wr => v8 = .int .i64 0 ∧ wr = w)
          case atStart => exact ⟨rfl, rfl⟩
          case round =>
            obtain ⟨rfl, hw⟩ := hrel
            subst hw
            go_wp2_with fail
            go_ret
            exact ⟨⟨true, rfl, by simp⟩, rfl⟩
        · by_cases h4 : (1048576 : Int) < (xs.length : Int)
          · go_enter Tryf.func7, Tryf.ntmps7
            go_wp2_with fail
            go_ret
            exact ⟨⟨false, rfl, by simp⟩, rfl⟩
          · by_cases h5 : (1048576 : Int) < (d.length : Int) + (s.length : Int) + (xs.length : Int)
            · go_enter Tryf.func7, Tryf.ntmps7
              go_wp2_with fail
              go_ret
              exact ⟨⟨false, rfl, by simp⟩, rfl⟩
            · go_enter Tryf.func7, Tryf.ntmps7
              go_upto_region 18 with fail
              go_loopg [7, 8] (xs.length + 1) (fun f v7 v8 wr => ∃ (i : Nat) (z : Int), v7 = .int .i64 z ∧ 0 ≤ z ∧ z ≤ 1048576 ∧ v8 = .int .i64 (i : Int) ∧ i ≤ xs.length ∧ xs.length < f + i ∧ wr = w ∧ Hid (∀ x ∈ xs.take i, x.length ≤ 1048576))
              case atStart => exact ⟨0, _, rfl, by omega, by omega, rfl, by omega, by omega, rfl, by show ∀ x ∈ _, _; simp⟩
              case round =>
                obtain ⟨i, z, rfl, hz0, hz1, rfl, hi, hif, hw, hal⟩ := hrel
                subst hw
                obtain ⟨f, rfl⟩ : ∃ f, gk = f + 1 := ⟨gk - 1, by omega⟩
                by_cases hlt : i < xs.length
                · obtain rfl : sp = none := hsp.resolve_left (by omega)
                  have hci := hst i hlt
                  have hxl := hx _ (List.getElem_mem hlt)
                  obtain ⟨x, hxi⟩ : ∃ x, xs[i] = x := ⟨_, rfl⟩
                  have htk : xs.take (i + 1) = xs.take i ++ [x] := by rw [List.take_add_one, List.getElem?_eq_getElem hlt, hxi]; rfl
                  have HTK := hid_of htk
                  rw [hxi] at hci hxl
                  clear hxi hst hx htk
                  by_cases h6 : (1048576 : Int) < (x.length : Int)
                  · go_wp2_with fail
                    go_ret
                    exact ⟨⟨false, rfl, by simp⟩, rfl⟩
                  · by_cases h7 : (1048576 : Int) < z + (x.length : Int)
                    · go_wp2_with fail
                      go_ret
                      exact ⟨⟨false, rfl, by simp⟩, rfl⟩
                    · go_wp2_with fail
                      go_roundg f
                      case measure => omega
                      case rel =>
                        refine ⟨i + 1, z + (x.length : Int), rfl, by omega, by omega, rfl, by omega, by omega, rfl, ?_⟩
                        show ∀ y ∈ xs.take (i + 1), _
                        rw [HTK.out]
                        intro y hy
                        rcases List.mem_append.1 hy with h | h
                        · exact hal.out y h
                        · simp at h; rw [h]; omega
                · obtain rfl : i = xs.length := by omega
                  have HAL : Hid (∀ x ∈ xs, x.length ≤ 1048576) := by
                    have := hal.out
                    rw [List.take_length] at this
                    exact this
                  clear hal
                  go_wp2_with fail
                  go_ret
                  exact ⟨⟨true, rfl, fun _ => HAL.out⟩, rfl⟩
end Go.Proofs.Qxb6614395aFmt
