import Derived.Test.Qxb6614395aFmtW19
set_option linter.unusedSimpArgs false
set_option linter.unusedVariables false
namespace Go.Proofs.Qxb6614395aFmt
open Go Go.RowKit Go.Deep Go.Extern.Stop Go.Stop Go.Extern
attribute [local go_sem] str_size str_get str_extract str_toList str_append

/-- A slice of strings in memory, told by its place. -/
def Strs (w : World) (b o : Nat) (xs : List (List UInt8)) : Prop := ∀ i (h : i < xs.length), w.cell? ⟨b, o + i, none⟩ = some (.string (str xs[i]))
theorem Strs.only {S : Nat → Prop} {w w' : World} {b o : Nat} {xs : List (List UInt8)} (h : Strs w b o xs) (ho : Only S w w') (hS : ¬ S b) : Strs w' b o xs := fun i hi => ho.cell (h i hi) hS
theorem strC_get (xs : List (List UInt8)) (i : Nat) (h : i < xs.length) : (strC xs)[i]? = some (.string (str xs[i])) := by simp [strC, h]
theorem strC_length (xs : List (List UInt8)) : (strC xs).length = xs.length := by simp [strC]
theorem SAt.strs {w : World} {b : Nat} {t : TypeId} {xs : List (List UInt8)} (h : SAt b t (strC xs) w) : Strs w b 0 xs := fun i hi => by rw [Nat.zero_add]; exact h.cell (strC_get xs i hi)

theorem eqlS_nil (w : World) : (binOp .eql 22 (.slice none 0 0) (.slice none 0 0)).run Tryf.prog w = .ok (.bool true) w := by kernel_rfl
theorem eqlS_some (a : Addr) (n c : Nat) (w : World) : (binOp .eql 22 (.slice (some a) n c) (.slice none 0 0)).run Tryf.prog w = .ok (.bool false) w := by kernel_rfl
theorem neqS_nil (w : World) : (binOp .neq 22 (.slice none 0 0) (.slice none 0 0)).run Tryf.prog w = .ok (.bool false) w := by kernel_rfl
attribute [local go_sem] eqlS_nil eqlS_some neqS_nil
theorem Quiet.strs {w w' : World} {b o : Nat} {xs : List (List UInt8)} (h : Quiet w w') (hs : Strs w b o xs) : Strs w' b o xs := by
  obtain ⟨k, rfl⟩ := h
  exact hs
theorem Quiet.only {w w' : World} (S : Nat → Prop) (h : Quiet w w') : Only S w w' := (Only.refl S w).quiet h

set_option maxHeartbeats 800000 in
set_option maxRecDepth 20000 in
theorem clone_calls (b o : Nat) (sp : Option Nat) (n cap : Nat) (xs : List (List UInt8)) (w : World) (hn : xs.length = n) (hb : n ≤ 1000000) (hsp : n = 0 ∨ sp = none) (hc : Strs w b o xs) :
    Calls Tryf.prog 8 #[.slice (some ⟨b, o, sp⟩) n cap] w fun e w' => e = .returned (.slice (some ⟨w.heap.size, 0, none⟩) n n) ∧ SAt w.heap.size 9 (strC xs) w' ∧ Only (fun _ => False) w w' ∧ w'.heap.size = w.heap.size + 1 := by
  have hmk := make_strs w n (by omega)
  obtain ⟨w1, hw1⟩ : ∃ w1, w.alloc (.cells (madeCells #[.string ⟨#[]⟩] n) 9) = w1 := ⟨_, rfl⟩
  have hz : w1.heap.size = w.heap.size + 1 := by rw [← hw1, nblk_alloc]
  have ho1 : Only (fun _ => False) w w1 := by rw [← hw1]; exact (Only.refl _ w).alloc _
  have hm : madeCells #[Value.string ⟨#[]⟩] n = (List.replicate n (Value.string ⟨#[]⟩)).toArray := by
    apply Array.ext'
    simp only [madeCells, Array.toList_map, Array.toList_range]
    rw [List.eq_replicate_iff]
    refine ⟨by simp, fun b hb => ?_⟩
    simp only [List.mem_map] at hb
    obtain ⟨x, -, rfl⟩ := hb
    have : x % (#[Value.string ⟨#[]⟩] : Array Value).size = 0 := Nat.mod_one x
    rw [this]
    rfl
  have hs1 : SAt w.heap.size 9 (List.replicate n (Value.string ⟨#[]⟩)) w1 := by
    rw [← hw1, hm]; exact SAt.new w _ _
  rw [hw1] at hmk
  have HS1 := hid_of hs1
  have HO1 := hid_of ho1
  have HC := hid_of hc
  have HZ := hid_of hz
  obtain ⟨q, hq⟩ : ∃ q, w.heap.size = q := ⟨_, rfl⟩
  rw [hq] at hmk HS1 HZ ⊢
  have HQ := hid_of hq
  clear hw1 hs1 ho1 hm hc hz hq
  go_enter Tryf.func8, Tryf.ntmps8
  go_upto_region 5 with fail
  go_loopg [4] (n + 1) (fun f v4 wr => ∃ i, v4 = .int .i64 ((i : Nat) : Int) ∧ i ≤ n ∧ n < f + i ∧ Hid (SAt q 9 (strC (xs.take i) ++ List.replicate (n - i) (Value.string ⟨#[]⟩)) wr) ∧ Hid (Only (fun _ => False) w wr) ∧ Hid (wr.heap.size = q + 1))
  case atStart => exact ⟨0, rfl, by omega, by omega, HS1, HO1, HZ⟩
  case round =>
    obtain ⟨i, rfl, hik, hif, hs, ho, hz⟩ := hrel
    obtain ⟨f, rfl⟩ : ∃ f, gk = f + 1 := ⟨gk - 1, by omega⟩
    by_cases hlt : i < n
    · obtain rfl : sp = none := hsp.resolve_left (by omega)
      have hi : i < xs.length := by omega
      have ha := ho.out.cell (HC.out i hi) (fun h => h)
      have hl : (strC (xs.take i)).length = i := by rw [strC_length, List.length_take]; omega
      have hold : w.heap.size = q := HQ.out
      have hd := hs.out.cell (i := i) (v := .string ⟨#[]⟩) (by rw [List.getElem?_append_right (by omega), hl, Nat.sub_self, show n - i = (n - (i + 1)) + 1 by omega, List.replicate_succ]; rfl)
      have hf := hs.out.frozen i
      clear hold
      go_wp2_with fail
      go_roundg f
      case measure => omega
      case rel =>
        refine ⟨i + 1, rfl, by omega, by omega, ?_, ?_, ?_⟩
        · refine hs.out.set' i _ ?_
          rw [List.set_append_right _ _ (by omega), hl, Nat.sub_self, show n - i = (n - (i + 1)) + 1 by omega, List.replicate_succ, List.set_cons_zero]
          have e : xs.take (i + 1) = xs.take i ++ [xs[i]] := by rw [List.take_add_one, List.getElem?_eq_getElem hi]; rfl
          rw [e]
          unfold strC
          rw [List.map_append, List.append_assoc]
          rfl
        · refine ho.out.setCell (.inr ?_) _
          have := HQ.out
          simp only []
          omega
        · exact (nblk_setCell _ _ _).trans hz.out
    · have hik' : i = n := by omega
      subst hik'
      go_wp2_with fail
      go_ret
      refine ⟨rfl, ?_, ho.out, hz.out⟩
      have h := hs.out
      rw [Nat.sub_self, List.replicate_zero, List.append_nil, List.take_of_length_le (by omega)] at h
      exact h
set_option maxRecDepth 20000 in
theorem clone_nil_calls (w : World) : Calls Tryf.prog 8 #[.slice none 0 0] w fun e w' => e = .returned (.slice none 0 0) ∧ w' = w := by
  go_enter Tryf.func8, Tryf.ntmps8
  go_wp2_with fail
  go_ret
  exact ⟨rfl, rfl⟩

set_option maxHeartbeats 800000 in
set_option maxRecDepth 20000 in
/-- zzSameStrings. -/
theorem same_calls (p : Option Addr) (pn pcap : Nat) (q : Option Addr) (qn qcap : Nat) (xs ys : List (List UInt8)) (w : World) (hx : xs.length = pn) (hy : ys.length = qn) (hbx : pn ≤ 9223372036854775807) (hby : qn ≤ 9223372036854775807)
    (hp : pn = 0 ∨ ∃ b, p = some ⟨b, 0, none⟩ ∧ Strs w b 0 xs) (hq : qn = 0 ∨ ∃ b, q = some ⟨b, 0, none⟩ ∧ Strs w b 0 ys) :
    Calls Tryf.prog 12 #[.slice p pn pcap, .slice q qn qcap] w fun e w' => (∃ bb, e = .returned (.bool bb) ∧ (bb = true ↔ xs = ys)) ∧ Quiet w w' := by
  by_cases hne : pn = qn
  · have H0 : Hid (xs.length = ys.length) := by rw [hx, hy]; exact hne
    subst hne
    go_enter Tryf.func12, Tryf.ntmps12
    go_upto_region 4 with fail
    go_loopg [5] (pn + 1) (fun f v4 wr => Hid (Quiet w wr) ∧ ∃ i, v4 = .int .i64 ((i : Nat) : Int) ∧ i ≤ pn ∧ pn < f + i ∧ Hid (xs.take i = ys.take i))
    case atStart => exact ⟨Quiet.refl w, 0, rfl, by omega, by omega, rfl⟩
    case round =>
      obtain ⟨hw, i, rfl, hik, hif, he⟩ := hrel
      obtain ⟨f, rfl⟩ : ∃ f, gk = f + 1 := ⟨gk - 1, by omega⟩
      by_cases hlt : i < pn
      · obtain ⟨b, rfl, hb⟩ := hp.resolve_left (by omega)
        obtain ⟨b', rfl, hb'⟩ := hq.resolve_left (by omega)
        have hi : i < xs.length := by omega
        have hi' : i < ys.length := by omega
        have h1 := hw.out.strs hb i hi
        have h2 := hw.out.strs hb' i hi'
        rw [Nat.zero_add] at h1 h2
        have HE : Hid (xs.take (i + 1) = ys.take (i + 1) ↔ xs[i] = ys[i]) := by
          show _ ↔ _
          have t1 : xs.take (i + 1) = xs.take i ++ [xs[i]] := by rw [List.take_add_one, List.getElem?_eq_getElem hi]; rfl
          have t2 : ys.take (i + 1) = ys.take i ++ [ys[i]] := by rw [List.take_add_one, List.getElem?_eq_getElem hi']; rfl
          rw [t1, t2, he.out, List.append_cancel_left_eq, List.cons.injEq]
          simp
        have HN : Hid (xs = ys → xs[i] = ys[i]) := fun h => by subst h; rfl
        obtain ⟨x, hxi⟩ : ∃ x, xs[i] = x := ⟨_, rfl⟩
        obtain ⟨y, hyi⟩ : ∃ y, ys[i] = y := ⟨_, rfl⟩
        rw [hxi] at h1 HE HN
        rw [hyi] at h2 HE HN
        clear hb hb' hxi hyi
        by_cases hxy : x = y
        · have HX := hid_of hxy
          have e2 : (x == y) = true := by rw [hxy]; simp
          go_wp2_with fail
          go_quiet (fail)
          go_wp2_with fail
          go_roundg f
          case measure => omega
          case rel => exact ⟨hw.out.drewN _, i + 1, rfl, by omega, by omega, HE.out.2 HX.out⟩
        · have HX := hid_of hxy
          have e0 : ¬ (str x = str y) := fun h => hxy (str_inj.1 h)
          have e2 : (x == y) = false := by rw [beq_eq_false_iff_ne]; exact hxy
          go_wp2_with fail
          go_quiet (fail)
          go_wp2_with fail
          go_ret
          exact ⟨⟨false, rfl, by simp; exact fun h => HX.out (HN.out h)⟩, hw.out.drewN _⟩
      · have hik' : i = pn := by omega
        subst hik'
        go_wp2_with fail
        go_ret
        refine ⟨⟨true, rfl, fun _ => ?_, fun _ => rfl⟩, hw.out⟩
        have h := he.out
        rwa [List.take_of_length_le (by omega), List.take_of_length_le (by omega)] at h
  · have hd : ¬ ((pn : Int) = (qn : Int)) := by omega
    have HD : Hid (xs ≠ ys) := fun h => hne (by rw [← hx, ← hy, h])
    go_enter Tryf.func12, Tryf.ntmps12
    go_wp2_with fail
    go_ret
    exact ⟨⟨false, rfl, by simp; exact HD.out⟩, Quiet.refl w⟩
end Go.Proofs.Qxb6614395aFmt
