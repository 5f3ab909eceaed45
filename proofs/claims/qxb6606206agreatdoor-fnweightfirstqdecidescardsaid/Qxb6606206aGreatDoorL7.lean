import Derived.Test.Qxb6606206aGreatDoorL3
import Derived.Lib.Split
import Derived.Lib.IndexBytes
import Derived.Lib.IndexLaws
import Derived.Lib.SplitLaws
import Derived.Lib.SlTrimSet
import Derived.Lib.IndexMore
set_option linter.unusedSimpArgs false
set_option linter.unusedVariables false
namespace Go.Proofs.Qxb6606206aGreatDoor
open Go

/-- The segments between semicolons. -/
def segs : List UInt8 → List (List UInt8)
  | [] => [[]]
  | c :: t => if c = 59 then [] :: segs t else (match segs t with | h :: r => (c :: h) :: r | [] => [[c]])
theorem segs_ne : ∀ l, segs l ≠ []
  | [] => by simp [segs]
  | c :: t => by
    unfold segs
    split
    · simp
    · split <;> simp
theorem segs_no : ∀ l : List UInt8, 59 ∉ l → segs l = [l]
  | [], _ => rfl
  | c :: t, h => by
    simp only [List.mem_cons, not_or] at h
    unfold segs
    rw [if_neg (fun e => h.1 e.symm), segs_no t h.2]
theorem segs_at : ∀ (a b : List UInt8), 59 ∉ a → segs (a ++ 59 :: b) = a :: segs b
  | [], b, _ => by simp [segs]
  | c :: t, b, h => by
    simp only [List.mem_cons, not_or] at h
    rw [List.cons_append, segs, if_neg (fun e => h.1 e.symm), segs_at t b h.2]
/-- The segments of 'a;b'. -/
theorem segs_join : ∀ (a b : List UInt8), segs (a ++ 59 :: b) = segs a ++ segs b
  | [], b => by simp [segs]
  | c :: t, b => by
    rw [List.cons_append, segs, segs]
    by_cases h : c = 59
    · rw [if_pos h, if_pos h, segs_join t b]; rfl
    · rw [if_neg h, if_neg h, segs_join t b]
      cases hs : segs t with
      | nil => exact absurd hs (segs_ne t)
      | cons x y => rfl
theorem cut59 {l : List UInt8} {i : Nat} (h : Lib.indexByte l 59 = i) : i < l.length ∧ 59 ∉ l.take i ∧ l = l.take i ++ 59 :: l.drop (i + 1) := by
  obtain ⟨h1, h2⟩ := Lib.indexByte_some h
  obtain ⟨hi, e⟩ := List.getElem?_eq_some_iff.1 h1
  refine ⟨hi, ?_, ?_⟩
  · intro hm
    obtain ⟨k, hk, ek⟩ := List.getElem_of_mem hm
    rw [List.length_take] at hk
    refine h2 k (by omega) ?_
    rw [List.getElem_take] at ek
    rw [List.getElem?_eq_getElem (by omega), ek]
  · have := List.take_append_drop i l
    rw [List.drop_eq_getElem_cons hi, e] at this
    exact this.symm
theorem splitK_segs : ∀ (k : Nat) (l : List UInt8), l.count 59 = k → Lib.splitK [59] 0 k l = segs l
  | 0, l, h => by
    rw [segs_no l (List.count_eq_zero.1 h)]; rfl
  | k + 1, l, h => by
    have hm : (59 : UInt8) ∈ l := List.count_pos_iff.1 (by omega)
    have hne : Lib.indexByte l 59 ≠ -1 := fun e => by
      obtain ⟨j, hj, ej⟩ := List.getElem_of_mem hm
      exact Lib.indexByte_none e j (by rw [List.getElem?_eq_getElem hj, ej])
    have hge := Lib.indexByte_ge l 59
    obtain ⟨i, hi⟩ := Int.eq_ofNat_of_zero_le (show 0 ≤ Lib.indexByte l 59 by omega)
    obtain ⟨h1, h2, h3⟩ := cut59 hi
    have hix : Lib.index l [59] = (i : Int) := by rw [Lib.index_one]; exact hi
    have hc : (l.drop (i + 1)).count 59 = k := by
      rw [h3, List.count_append, List.count_cons, List.count_eq_zero.2 h2] at h
      simpa using h
    have e : segs l = l.take i :: segs (l.drop (i + 1)) := by
      conv => lhs; rw [h3]
      exact segs_at _ _ h2
    rw [e, Lib.splitK, hix, if_neg (by simp), Int.toNat_natCast]
    show l.take i :: Lib.splitK [59] 0 k (l.drop (i + 1)) = _
    rw [splitK_segs k _ hc]
/-- What strings.Split(l, ";") lays. -/
theorem split_segs (l : List UInt8) : (Lib.splitB (str [59]) 0 (Lib.countB (str l) (str [59])) (str l)) = (segs l).map str := by
  have h := Lib.splitB_data (str [59]) 0 (Lib.countB (str l) (str [59])) (str l)
  have hc : Lib.countB (str l) (str [59]) = l.count 59 := Lib.count_one 59 l
  rw [hc] at h ⊢
  rw [show (str [59]).data.toList = [59] from rfl, show (str l).data.toList = l from rfl, splitK_segs _ l rfl] at h
  rw [← h, List.map_map]
  conv => lhs; rw [← List.map_id (Lib.splitB (str [59]) 0 (l.count 59) (str l))]
  congr 1
theorem segs_length (l : List UInt8) : (segs l).length = l.count 59 + 1 := by
  have h := Lib.splitB_all (str [59]) (by decide) 0 (l.count 59) (str l) (Lib.count_one 59 l)
  rw [← Lib.count_one 59 l] at h
  have e := split_segs l
  have e2 := congrArg List.length e
  rw [List.length_map] at e2
  rw [← e2]
  have hc : Lib.countB (str l) (str [59]) = l.count 59 := Lib.count_one 59 l
  rw [hc]
  rw [Lib.count_one] at h
  exact h

/-- A segment's name and value. -/
def nameOf (p : List UInt8) : List UInt8 := Lib.trimS (Lib.cut p [61]).1 [32, 9]
def valOf (p : List UInt8) : List UInt8 := Lib.trimS (Lib.cut p [61]).2.1 [32, 9]
def isQ (x : List UInt8) : Bool := x == [113] || x == [81]
variable (num : List UInt8 → Nat)
/-- The weight of a list of segments. -/
def wt : List (List UInt8) → Nat
  | [] => 4607182418800017408
  | p :: t => if isQ (nameOf p) then num (valOf p) else wt t
theorem wt_none : ∀ s : List (List UInt8), (s.any fun p => isQ (nameOf p)) = false → wt num s = 4607182418800017408
  | [], _ => rfl
  | p :: t, h => by
    simp only [List.any_cons, Bool.or_eq_false_iff] at h
    rw [wt, h.1, wt_none t h.2]; rfl
theorem wt_left : ∀ s t : List (List UInt8), (s.any fun p => isQ (nameOf p)) = true → wt num (s ++ t) = wt num s
  | [], t, h => by simp at h
  | p :: s, t, h => by
    rw [List.cons_append, wt, wt]
    cases hp : isQ (nameOf p) with
    | true => rfl
    | false =>
      simp only [List.any_cons, hp, Bool.false_or] at h
      exact wt_left s t h
theorem wt_right : ∀ s t : List (List UInt8), (s.any fun p => isQ (nameOf p)) = false → wt num (s ++ t) = wt num t
  | [], t, h => rfl
  | p :: s, t, h => by
    simp only [List.any_cons, Bool.or_eq_false_iff] at h
    rw [List.cons_append, wt, h.1]
    exact wt_right s t h.2
end Go.Proofs.Qxb6606206aGreatDoor
