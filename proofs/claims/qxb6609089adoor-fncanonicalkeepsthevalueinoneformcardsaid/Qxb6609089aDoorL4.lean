import Derived.Test.Qxb6609089aDoorL3
import Derived.Lib.MapLaws
import Derived.Lib.IndexLaws
set_option linter.unusedSimpArgs false
set_option linter.unusedVariables false
namespace Go.Proofs.Qxb6609089aDoor.Uq
open Go Go.RowKit

def byt (l : List Int) : List UInt8 := l.map fun n => UInt8.ofNat n.toNat
def num (l : List UInt8) : List Int := l.map fun c => (c.toNat : Int)
theorem byt_append (a b : List Int) : byt (a ++ b) = byt a ++ byt b := by simp [byt]
theorem num_append (a b : List UInt8) : num (a ++ b) = num a ++ num b := by simp [num]

theorem wrap_i32 (n : Int) (h0 : 0 ≤ n) (h1 : n < 2147483648) : IntKind.i32.wrap n = n := by
  rw [IntKind.wrap_i32]
  omega
theorem hexStep_nat (v x : Nat) (hv : v < 134217728) (hx : x < 16) : hexStep (v : Int) (x : Int) = ((16 * v + x : Nat) : Int) := by
  have hw : wrap32 ((v : Int) * 16) = ((16 * v : Nat) : Int) := by unfold wrap32; omega
  unfold hexStep
  rw [hw]
  have h1 : (BitVec.ofInt 32 ((16 * v : Nat) : Int)).toNat = 16 * v := by
    rw [BitVec.ofInt_natCast, BitVec.toNat_ofNat]; exact Nat.mod_eq_of_lt (by omega)
  have h2 : (BitVec.ofInt 32 (x : Int)).toNat = x := by
    rw [BitVec.ofInt_natCast, BitVec.toNat_ofNat]; exact Nat.mod_eq_of_lt (by omega)
  have h3 : 16 * v ||| x = 16 * v + x := by
    have := Nat.two_pow_add_eq_or_of_lt (i := 4) (b := x) (by omega) v
    simpa using this.symm
  show IntKind.i32.wrap ((BitVec.ofInt 32 ((16 * v : Nat) : Int) ||| BitVec.ofInt 32 (x : Int)).toNat : Int) = _
  rw [BitVec.toNat_or, h1, h2, h3]
  exact wrap_i32 _ (by omega) (by omega)

theorem unhex_digit : ∀ x : Fin 16, unhex (UInt8.ofNat (Lib.hexDigit x.val).toNat) = some (x.val : Int) := by decide
theorem unhex_hex (x : Nat) (h : x < 16) : unhex (UInt8.ofNat (Lib.hexDigit x).toNat) = some (x : Int) := unhex_digit ⟨x, h⟩

theorem hexv_digits (r : Nat) : ∀ (n v : Nat), (v + 1) * 16 ^ n ≤ 134217728 → hexv (byt (Lib.hexDigits r n)) (v : Int) = some ((v * 16 ^ n + r % 16 ^ n : Nat) : Int)
  | 0, v, _ => by simp [Lib.hexDigits, byt, hexv, Nat.mod_one]
  | n + 1, v, h => by
    have hx : r / 16 ^ n % 16 < 16 := Nat.mod_lt _ (by omega)
    have hp : 0 < 16 ^ n := Nat.pow_pos (by omega)
    have hv : v < 134217728 := by
      have : (v + 1) * 1 ≤ (v + 1) * 16 ^ (n + 1) := Nat.mul_le_mul_left _ (Nat.pow_pos (by omega))
      omega
    have ih := hexv_digits r n (16 * v + r / 16 ^ n % 16) (by
      have h1 : (16 * v + r / 16 ^ n % 16 + 1) * 16 ^ n ≤ (16 * (v + 1)) * 16 ^ n := Nat.mul_le_mul_right _ (by omega)
      have h2 : (16 * (v + 1)) * 16 ^ n = (v + 1) * 16 ^ (n + 1) := by rw [Nat.pow_succ]; ac_rfl
      omega)
    show hexv (UInt8.ofNat (Lib.hexDigit (r / 16 ^ n % 16)).toNat :: byt (Lib.hexDigits r n)) (v : Int) = _
    rw [hexv, unhex_hex _ hx]
    simp only []
    rw [hexStep_nat v _ hv hx, ih]
    congr 2
    rw [Nat.mod_pow_succ, Nat.pow_succ, Nat.add_mul, Nat.add_assoc]
    congr 1
    · ac_rfl
    · rw [Nat.add_comm, Nat.mul_comm]

theorem hexv_two (b : Nat) (h : b < 256) : hexv (byt [Lib.hexDigit (b / 16), Lib.hexDigit (b % 16)]) 0 = some (b : Int) := by
  have := hexv_digits b 2 0 (by decide)
  have e : Lib.hexDigits b 2 = [Lib.hexDigit (b / 16), Lib.hexDigit (b % 16)] := by
    simp only [Lib.hexDigits, Nat.pow_one, Nat.pow_zero, Nat.div_one]
    rw [Nat.mod_eq_of_lt (show b / 16 < 16 by omega)]
  rw [e] at this
  simp only [Nat.zero_mul, Nat.zero_add] at this
  rw [show b % 16 ^ 2 = b from Nat.mod_eq_of_lt (by omega)] at this
  exact this
theorem hexv_four (r : Nat) (h : r < 65536) : hexv (byt (Lib.hexDigits r 4)) 0 = some (r : Int) := by
  have := hexv_digits r 4 0 (by decide)
  simp only [Nat.zero_mul, Nat.zero_add] at this
  rw [Nat.mod_eq_of_lt (by omega)] at this
  exact this
theorem hexv_eight (r : Nat) (h : r ≤ 1114111) : hexv (byt (Lib.hexDigits r 8)) 0 = some (r : Int) := by
  have h6 := hexv_digits r 6 0 (by decide)
  simp only [Nat.zero_mul, Nat.zero_add] at h6
  rw [Nat.mod_eq_of_lt (by omega)] at h6
  have e7 : r / 16 ^ 7 % 16 = 0 := by omega
  have e6 : r / 16 ^ 6 % 16 = 0 := by omega
  have s0 : hexStep 0 0 = 0 := hexStep_nat 0 0 (by omega) (by omega)
  show hexv (UInt8.ofNat (Lib.hexDigit (r / 16 ^ 7 % 16)).toNat :: UInt8.ofNat (Lib.hexDigit (r / 16 ^ 6 % 16)).toNat :: byt (Lib.hexDigits r 6)) 0 = _
  rw [e7, e6, hexv, unhex_hex 0 (by omega)]
  simp only []
  rw [show ((0 : Nat) : Int) = 0 from rfl, s0, hexv, unhex_hex 0 (by omega)]
  simp only []
  rw [show ((0 : Nat) : Int) = 0 from rfl, s0]
  exact h6

theorem hexDigits_length (r : Nat) : ∀ n, (Lib.hexDigits r n).length = n
  | 0 => rfl
  | n + 1 => by simp [Lib.hexDigits, hexDigits_length r n]

theorem ucx_hex {h : List UInt8} {v : Int} (rest : List UInt8) (hl : h.length = 2) (hv : hexv h 0 = some v) : ucx (h ++ rest) = some (v, false, rest) := by
  unfold ucx
  rw [if_neg (by simp [hl]), List.take_append_of_le_length (by omega), List.take_of_length_le (by omega), hv]
  simp only []
  rw [show 2 = h.length from hl.symm, List.drop_left]
theorem ucu_hex {h : List UInt8} {v : Int} (n : Nat) (rest : List UInt8) (hl : h.length = n) (hv : hexv h 0 = some v) (hr : Lib.validRune v = true) : ucu n (h ++ rest) = some (v, true, rest) := by
  unfold ucu
  rw [if_neg (by simp [hl]), List.take_append_of_le_length (by omega), List.take_of_length_le (by omega), hv]
  simp only []
  rw [if_pos hr, ← hl, List.drop_left]

/-- A valid rune's bytes decode to it whatever follows them. -/
theorem decode_prefix (l rest : List UInt8) (hne : l ≠ []) (hv : ¬ ((Lib.decodeL l).1 = 65533 ∧ (Lib.decodeL l).2 = 1)) : Lib.decodeL (l.take (Lib.decodeL l).2 ++ rest) = Lib.decodeL l := by
  have hle := Lib.decodeL_le l hne
  have hw := Lib.decodeL_width l
  obtain ⟨K, hK⟩ : ∃ K, (Lib.decodeL l).2 = K := ⟨_, rfl⟩
  rw [hK] at hle hw ⊢
  have hlen : (l.take K ++ rest).length = K + rest.length := by rw [List.length_append, List.length_take]; omega
  have g : ∀ j, j < K → (l.take K ++ rest).getD j 0 = l.getD j 0 := fun j hj => by
    rw [List.getD_eq_getElem?_getD, List.getD_eq_getElem?_getD, List.getElem?_append_left (by rw [List.length_take]; omega), List.getElem?_take, if_pos hj]
  have hD := Lib.decodeL_N l
  rw [hD] at hv hK
  rw [Lib.decodeL_N (l.take K ++ rest), hD, hlen]
  have k0 := (l.getD 0 0).toNat_lt
  have k1 := (l.getD 1 0).toNat_lt
  have k2 := (l.getD 2 0).toNat_lt
  have k3 := (l.getD 3 0).toNat_lt
  rcases Lib.decodeN_shape l.length (l.getD 0 0).toNat (l.getD 1 0).toNat (l.getD 2 0).toNat (l.getD 3 0).toNat with ⟨c, e⟩ | ⟨c1, c2, c3, cv, e⟩ | ⟨c1, c2, c3, c4, cv, cs, e⟩ | ⟨c1, c2, c3, c4, c5, cv, cw, e⟩ | e
  · rw [e] at hK ⊢
    rw [g 0 (by omega)]
    unfold Lib.decodeN
    rw [if_pos c]
  · rw [e] at hK ⊢
    simp only [] at hK
    subst hK
    rw [g 0 (by omega), g 1 (by omega)]
    unfold Lib.decodeN
    rw [if_neg (by omega), if_pos ⟨c1, by omega, c3⟩, if_pos cv]
  · rw [e] at hK ⊢
    simp only [] at hK
    subst hK
    rw [g 0 (by omega), g 1 (by omega), g 2 (by omega)]
    unfold Lib.decodeN
    rw [if_neg (by omega), if_neg (by omega), if_pos ⟨c1, ⟨by omega, c3⟩, by omega, c4⟩, if_pos (by omega)]
  · rw [e] at hK ⊢
    simp only [] at hK
    subst hK
    rw [g 0 (by omega), g 1 (by omega), g 2 (by omega), g 3 (by omega)]
    unfold Lib.decodeN
    rw [if_neg (by omega), if_neg (by omega), if_neg (by omega), if_pos ⟨c1, ⟨by omega, c3⟩, ⟨by omega, c4⟩, by omega, c5⟩, if_pos (by omega)]
  · rw [e] at hv
    exact absurd ⟨rfl, rfl⟩ hv

theorem byt_num (l : List UInt8) : byt (num l) = l := by
  unfold byt num
  rw [List.map_map, show ((fun n : Int => UInt8.ofNat n.toNat) ∘ fun c : UInt8 => (c.toNat : Int)) = id from funext fun c => by simp, List.map_id]
theorem num_byt {l : List Int} (h : ∀ x ∈ l, 0 ≤ x ∧ x < 256) : num (byt l) = l := by
  unfold byt num
  rw [List.map_map]
  conv => rhs; rw [← List.map_id l]
  refine List.map_congr_left fun x hx => ?_
  have := h x hx
  simp only [Function.comp, id, UInt8.toNat_ofNat']
  omega
theorem byt_enc (r : Int) : byt (Lib.encodeRuneZ r) = Lib.encodeRune r := rfl

/-- What a rune that was read from valid bytes adds: just those bytes. -/
theorem num_take (l : List UInt8) (hne : l ≠ []) (hv : ¬ ((Lib.decodeL l).1 = 65533 ∧ (Lib.decodeL l).2 = 1)) : Lib.encodeRuneZ ((Lib.decodeL l).1 : Int) = num (l.take (Lib.decodeL l).2) := by
  rw [← Lib.encode_decode l hne hv, ← byt_enc, num_byt (Lib.encodeRuneZ_byte _)]

end Go.Proofs.Qxb6609089aDoor.Uq
