import Derived.Test.Qxb6614395aFmtW22
set_option linter.unusedSimpArgs false
set_option linter.unusedVariables false
namespace Go.Proofs.Qxb6614395aFmt
open Go Go.RowKit Go.Deep Go.Extern.Stop Go.Stop Go.Extern
attribute [local go_sem] str_size str_get str_extract str_toList str_append

theorem strOfNums_bytes' (l : List UInt8) : strOfNums (l.map fun c => (c.toNat : Int)) = str l := by
  apply ByteArray.ext
  simp only [strOfNums, str]
  congr 1
  rw [List.map_map]
  conv => rhs; rw [← List.map_id l]
  congr 1
  funext c
  simp
/-- string(b[o:..]). -/
theorem seg_string {w : World} {b o n cap : Nat} {l : List UInt8} (hn : l.length = n) (h : Seg w b o l) : (convert 36 9 (.slice (some ⟨b, o, none⟩) n cap)).run Tryf.prog w = .ok (.string (str l)) w := by
  have := run_convert_bytes_arg w 36 5 Tryf.underlying36 Tryf.underlying5 b o n cap (l.map fun c => (c.toNat : Int)) (by simpa using hn) (by subst hn; exact h.xs) 9 Tryf.underlying9
  rw [strOfNums_bytes'] at this
  exact this

def mark : List UInt8 := [239, 187, 191]
/-- What the reader holds behind Skip. -/
def SkPost (g : Nat) (bE : Addr) (T : List UInt8) (w : World) (e : Ending) (w' : World) : Prop :=
  e = .returned .nilIface ∧ Only (own g) w w' ∧ ∃ r, Src g (tripA bE) (if T.take 3 = mark then (3, false) else (0, false)) (if T.take 3 = mark then T.drop 3 else T) r w'

set_option maxHeartbeats 1600000 in
set_option maxRecDepth 20000 in
theorem skip_calls (F : Interp) (g : Nat) (bE bF : Addr) (T : List UInt8) (w : World) (hF : F.answers w.tape) (hS : Sent g bE bF w) (hsz : g + 6 ≤ w.heap.size) (hb : Buf g 0 [] .nilIface w) (hr : RunS g (0, false) T w) :
    Calls Tryf.prog 35 #[.pointer (some ⟨g + 2, 0, none⟩)] w (SkPost g bE T w) := by
  have cP := peek_calls F g bE bF T w hF hS hsz hb hr
  have HS := hid_of hS
  clear hb hr hS
  go_enter Tryf.func35, Tryf.ntmps35
  go_upto_region 2 with (go_at_call 45; go_fit cP; rintro e w1 ⟨n, cap, E, bf, un, e0, rfl, hnc, hxn, hseg, hpk, hnb, hE⟩)
  have hcv := seg_string (cap := cap) hxn hseg
  have hS1 : Sent g bE bF w1 := HS.out.only hpk.2.2.2.1 (fun k hk h => by unfold own at h; omega)
  have hE1 : w1.cell? ⟨0, 0, none⟩ = some (.iface 99 (.pointer (some bE))) := hS1.e
  have hO1 := hpk.2.2.2.1
  have hsrc : Src g (tripA bE) (0, false) T 0 w1 := ⟨by simp, bf, un, e0, hpk.1, hpk.2.1, hpk.2.2.1, .inl ⟨hpk.2.2.2.2.1, hpk.2.2.2.2.2⟩⟩
  obtain ⟨x, hx⟩ : ∃ x, T.take 3 = x := ⟨_, rfl⟩
  rw [hx] at hcv hxn
  have HO1 := hid_of hO1
  have HSRC := hid_of hsrc
  have HPK := hid_of hpk
  have HX := hid_of hx
  by_cases hm : x = mark
  · have hn3 : n = 3 := by rw [← hxn, hm]; rfl
    have hEn : E = .nilIface := by
      rcases hE with ⟨-, h⟩ | ⟨h, -⟩
      · exact h
      · omega
    subst hn3
    subst hEn
    have cD := discard_calls g bE T bf un e0 w w1 hpk hnb
    have HTM : Hid (T.take 3 = mark) := hx.trans hm
    have hadv : adv (0, false) (T.take 3) = (3, false) := by rw [hx, hm]; rfl
    have HADV := hid_of hadv
    rw [hm] at hcv
    simp only [mark] at hcv
    clear hO1 hsrc hpk hx hE hseg hm hadv hxn
    go_wp2_with (go_at_call 46; go_fit cD; rintro e w2 ⟨rfl, ho2, hs2⟩)
    go_ret
    refine ⟨rfl, HO1.out.trans ho2 (fun _ _ h => h), 3, ?_⟩
    rw [HADV.out] at hs2
    rw [if_pos HTM.out, if_pos HTM.out]
    exact hs2
  · have HTM : Hid (¬ T.take 3 = mark) := fun h => hm (hx.symm.trans h)
    have hmb : (x == [239, 187, 191]) = false := by rw [beq_eq_false_iff_ne]; exact hm
    have hms : ¬ (x = [239, 187, 191]) := hm
    have hst2 : ¬ (str x = (⟨#[239, 187, 191]⟩ : ByteArray)) := fun h => hm (str_inj.1 h)
    clear hO1 hsrc hpk hx hseg hm hxn
    rcases hE with ⟨-, rfl⟩ | ⟨-, rfl⟩
    · have hq := eql_nil w1 bE
      go_wp2_with fail
      go_ret
      refine ⟨rfl, HO1.out, 0, ?_⟩
      rw [if_neg HTM.out, if_neg HTM.out]
      exact HSRC.out
    · have hq := eql_same w1 bE
      simp only [tripE, tripA]
      go_wp2_with fail
      go_ret
      refine ⟨rfl, HO1.out, 0, ?_⟩
      rw [if_neg HTM.out, if_neg HTM.out]
      exact HSRC.out
end Go.Proofs.Qxb6614395aFmt
