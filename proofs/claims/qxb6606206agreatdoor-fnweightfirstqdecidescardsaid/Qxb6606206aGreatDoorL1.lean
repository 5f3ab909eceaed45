import Init
set_option linter.unusedSimpArgs false
set_option linter.unusedVariables false
namespace Go.Proofs.Qxb6606206aGreatDoor

/-- A decimal of strconv: its 800 cells, how many are used, where the point lies, two flags. -/
structure Dc where
  d : Nat → Nat
  nd : Nat
  dp : Int
  neg : Bool
  tr : Bool
namespace Dc
def put (s : Dc) (i v : Nat) : Dc := { s with d := fun j => if j = i then v else s.d j }
theorem put_d (s : Dc) (i v j : Nat) : (s.put i v).d j = if j = i then v else s.d j := rfl
theorem put_nd (s : Dc) (i v : Nat) : (s.put i v).nd = s.nd := rfl
theorem put_dp (s : Dc) (i v : Nat) : (s.put i v).dp = s.dp := rfl
theorem put_neg (s : Dc) (i v : Nat) : (s.put i v).neg = s.neg := rfl
theorem put_tr (s : Dc) (i v : Nat) : (s.put i v).tr = s.tr := rfl

/-- A digit's byte. -/
def Dig (v : Nat) : Prop := 48 ≤ v ∧ v ≤ 57
theorem dig_of {q : Nat} (h : q < 10) : Dig (q + 48) := ⟨by omega, by omega⟩
/-- What every decimal on the road keeps: at most 800 digits, each a digit, the first not 0. -/
structure Ok (s : Dc) : Prop where
  le : s.nd ≤ 800
  dig : ∀ i, i < s.nd → Dig (s.d i)
  fst : 0 < s.nd → s.d 0 ≠ 48

/-! ### trim -/
def tl (d : Nat → Nat) : Nat → Nat
  | 0 => 0
  | n + 1 => if d n = 48 then tl d n else n + 1
def trim (s : Dc) : Dc := { s with nd := tl s.d s.nd, dp := if tl s.d s.nd = 0 then 0 else s.dp }
theorem tl_le (d : Nat → Nat) : ∀ n, tl d n ≤ n
  | 0 => Nat.le_refl _
  | n + 1 => by
    unfold tl; split
    · exact Nat.le_succ_of_le (tl_le d n)
    · exact Nat.le_refl _
theorem tl_pos (d : Nat → Nat) (h : d 0 ≠ 48) : ∀ n, 0 < n → 0 < tl d n
  | 0, h0 => absurd h0 (Nat.lt_irrefl _)
  | n + 1, _ => by
    unfold tl; split
    · rename_i hn
      rcases Nat.eq_zero_or_pos n with rfl | hp
      · exact absurd hn h
      · exact tl_pos d h n hp
    · exact Nat.succ_pos _
theorem trim_ok {s : Dc} (hle : s.nd ≤ 800) (hd : ∀ i, i < s.nd → Dig (s.d i)) (hp : 0 < s.nd) (h0 : s.d 0 ≠ 48) :
    s.trim.Ok ∧ 0 < s.trim.nd ∧ s.trim.d = s.d ∧ s.trim.dp = s.dp := by
  have h1 := tl_pos s.d h0 s.nd hp
  have h2 := tl_le s.d s.nd
  refine ⟨⟨Nat.le_trans h2 hle, fun i hi => hd i (Nat.lt_of_lt_of_le hi h2), fun _ => h0⟩, h1, rfl, ?_⟩
  show (if tl s.d s.nd = 0 then 0 else s.dp) = s.dp
  rw [if_neg (by omega)]

/-! ### rightShift -/
/-- 'for n>>k == 0 { n = n*10; r++ }' -/
def rsB (k : Nat) : Nat → Nat → Nat → Nat × Nat
  | 0, r, n => (r, n)
  | f + 1, r, n => if n / 2 ^ k = 0 then rsB k f (r + 1) (n * 10) else (r, n)
/-- The first loop. -/
def rsA (s : Dc) (k : Nat) : Nat → Nat → Nat → Nat × Nat
  | 0, r, n => (r, n)
  | f + 1, r, n => if n / 2 ^ k = 0 then (if r < s.nd then rsA s k f (r + 1) (n * 10 + (s.d r - 48)) else rsB k 100 r n) else (r, n)
/-- 'for ; r < a.nd; r++': pick up a digit, put down a digit. -/
def rsC (k : Nat) : Nat → Dc → Nat → Nat → Nat → Dc × Nat × Nat
  | 0, s, r, w, n => (s, w, n)
  | f + 1, s, r, w, n => if r < s.nd then rsC k f (s.put w (n / 2 ^ k + 48)) (r + 1) (w + 1) (n % 2 ^ k * 10 + (s.d r - 48)) else (s, w, n)
/-- 'for n > 0': put down extra digits. -/
def rsD (k : Nat) : Nat → Dc → Nat → Nat → Dc × Nat
  | 0, s, w, n => (s, w)
  | f + 1, s, w, n => if n = 0 then (s, w) else
      if w < 800 then rsD k f (s.put w (n / 2 ^ k + 48)) (w + 1) (n % 2 ^ k * 10)
      else rsD k f (if 0 < n / 2 ^ k then { s with tr := true } else s) w (n % 2 ^ k * 10)
def rshift (s : Dc) (k : Nat) : Dc :=
  let a := rsA s k 1000 0 0
  let s1 : Dc := { s with dp := s.dp - ((a.1 : Int) - 1) }
  let c := rsC k 1000 s1 a.1 0 a.2
  let e := rsD k 100 c.1 c.2.1 c.2.2
  trim { e.1 with nd := e.2 }

theorem div_pow_zero {n k : Nat} : n / 2 ^ k = 0 ↔ n < 2 ^ k := by
  rw [Nat.div_eq_zero_iff]
  constructor
  · rintro (h | h)
    · exact absurd h (Nat.ne_of_gt (Nat.two_pow_pos k))
    · exact h
  · exact .inr

/-- rsB ends with n in [2^k, 10 2^k), and r within 70 of where it was. -/
theorem rsB_ok (k : Nat) : ∀ (f r n j : Nat), 0 < n → 10 ^ j ≤ n → n < 10 * 2 ^ k → k ≤ 60 → 20 < f + j →
    2 ^ k ≤ (rsB k f r n).2 ∧ (rsB k f r n).2 < 10 * 2 ^ k ∧ r ≤ (rsB k f r n).1 ∧ (rsB k f r n).1 ≤ r + f
  | 0, r, n, j, h0, hj, hn, hk, hf => by
    exfalso
    have h1 : 10 ^ 21 ≤ 10 ^ j := Nat.pow_le_pow_right (by omega) (by omega)
    have h2 : 2 ^ k ≤ 2 ^ 60 := Nat.pow_le_pow_right (by omega) hk
    have h3 : (10 : Nat) * 2 ^ 60 < 10 ^ 21 := by decide
    omega
  | f + 1, r, n, j, h0, hj, hn, hk, hf => by
    unfold rsB
    split
    · rename_i h
      rw [div_pow_zero] at h
      have := rsB_ok k f (r + 1) (n * 10) (j + 1) (by omega) (by rw [Nat.pow_succ]; omega) (by omega) hk (by omega)
      omega
    · rename_i h
      rw [div_pow_zero] at h
      simp only
      omega

theorem rsA_ok (s : Dc) (k : Nat) (hs : s.Ok) (h1 : 0 < s.nd) (hk : k ≤ 60) : ∀ (f r n : Nat), s.nd < f + r → (r = 0 ∧ n = 0 ∨ 0 < r ∧ 0 < n) → r ≤ s.nd → n < 10 * 2 ^ k → (r = 1 → n = s.d 0 - 48) →
    2 ^ k ≤ (rsA s k f r n).2 ∧ (rsA s k f r n).2 < 10 * 2 ^ k ∧ 1 ≤ (rsA s k f r n).1 ∧ (rsA s k f r n).1 ≤ 1000 ∧ ((rsA s k f r n).1 = 1 → (rsA s k f r n).2 = s.d 0 - 48)
  | 0, r, n, hf, hrn, hr, hn, hd => by omega
  | f + 1, r, n, hf, hrn, hr, hn, hd => by
    have hle := hs.le
    have hf0 := hs.fst h1
    have hdg := hs.dig
    unfold rsA
    split
    · rename_i h
      rw [div_pow_zero] at h
      split
      · rename_i hlt
        have hg := hdg r hlt
        unfold Dig at hg
        refine rsA_ok s k hs h1 hk f (r + 1) _ (by omega) (.inr ⟨by omega, ?_⟩) (by omega) (by omega) ?_
        · rcases hrn with ⟨rfl, rfl⟩ | h3
          · omega
          · omega
        · intro hr1
          obtain rfl : r = 0 := by omega
          rcases hrn with ⟨_, rfl⟩ | h3
          · omega
          · omega
      · rename_i hlt
        have hn0 : 0 < n := by omega
        have := rsB_ok k 100 r n 0 hn0 (by rw [Nat.pow_zero]; exact hn0) hn hk (by omega)
        refine ⟨this.1, this.2.1, by omega, by omega, ?_⟩
        intro hr1
        obtain rfl : r = 1 := by omega
        have hnd : s.nd = 1 := by omega
        exfalso
        have hB : (rsB k 100 1 n).1 = 1 := hr1
        unfold rsB at hB
        rw [if_pos (div_pow_zero.2 h)] at hB
        have h5 := (rsB_ok k 99 2 (n * 10) 0 (by omega) (by rw [Nat.pow_zero]; omega) (by omega) hk (by omega)).2.2.1
        rw [show 1 + 1 = 2 from rfl] at hB
        exact absurd (hB ▸ h5) (by decide)
    · rename_i h
      rw [div_pow_zero] at h
      have : 1 ≤ r := by
        rcases hrn with ⟨_, rfl⟩ | h3
        · exact absurd (Nat.two_pow_pos k) h
        · exact h3.1
      exact ⟨by simp only; omega, hn, this, by simp only; omega, hd⟩

theorem rsC_ok (k n0 r0 : Nat) (hk : k ≤ 60) : ∀ (f : Nat) (s : Dc) (r w n : Nat), s.nd < f + r → s.nd ≤ 800 → (∀ i, r ≤ i → i < s.nd → Dig (s.d i)) → w < r → n < 10 * 2 ^ k →
    (∀ i, i < w → Dig (s.d i)) → (0 < w → s.d 0 = n0 / 2 ^ k + 48) → (w = 0 → n = n0) → w ≤ 800 →
    (rsC k f s r w n).1.nd = s.nd ∧ (rsC k f s r w n).1.dp = s.dp ∧ (rsC k f s r w n).1.neg = s.neg ∧ (rsC k f s r w n).2.2 < 10 * 2 ^ k ∧ (∀ i, i < (rsC k f s r w n).2.1 → Dig ((rsC k f s r w n).1.d i)) ∧
    (0 < (rsC k f s r w n).2.1 → (rsC k f s r w n).1.d 0 = n0 / 2 ^ k + 48) ∧ ((rsC k f s r w n).2.1 = 0 → (rsC k f s r w n).2.2 = n0) ∧ (rsC k f s r w n).2.1 ≤ 800
  | 0, s, r, w, n, hf, hnd, hg, hwr, hn, hgw, h0, hw0, hw8 => ⟨rfl, rfl, rfl, hn, hgw, h0, hw0, hw8⟩
  | f + 1, s, r, w, n, hf, hnd, hg, hwr, hn, hgw, h0, hw0, hw8 => by
    unfold rsC
    split
    · rename_i hlt
      have hp := Nat.two_pow_pos k
      have hq : n / 2 ^ k < 10 := by rw [Nat.div_lt_iff_lt_mul hp]; omega
      have hm : n % 2 ^ k < 2 ^ k := Nat.mod_lt _ hp
      have hgr := hg r (Nat.le_refl _) hlt
      unfold Dig at hgr
      refine rsC_ok k n0 r0 hk f (s.put w (n / 2 ^ k + 48)) (r + 1) (w + 1) _ (by rw [put_nd]; omega) hnd ?_ (by omega) (by omega) ?_ ?_ (by omega) (by omega)
      · intro i hi hi2
        rw [put_d, if_neg (by omega)]
        exact hg i (by omega) hi2
      · intro i hi
        rw [put_d]
        split
        · exact dig_of hq
        · exact hgw i (by omega)
      · intro _
        rw [put_d]
        split
        · rename_i h; rw [hw0 (by omega)]
        · exact h0 (by omega)
    · exact ⟨rfl, rfl, rfl, hn, hgw, h0, hw0, hw8⟩

theorem rsD_ok (k n0 : Nat) (hk : k ≤ 60) (hn0 : 2 ^ k ≤ n0 ∧ n0 < 10 * 2 ^ k) : ∀ (f : Nat) (s : Dc) (w n j : Nat), k < f + j → 2 ^ j ∣ n → n < 10 * 2 ^ k →
    (∀ i, i < w → Dig (s.d i)) → (0 < w → s.d 0 = n0 / 2 ^ k + 48) → (w = 0 → n = n0) → w ≤ 800 →
    (rsD k (f + 1) s w n).1.dp = s.dp ∧ (rsD k (f + 1) s w n).1.neg = s.neg ∧ (∀ i, i < (rsD k (f + 1) s w n).2 → Dig ((rsD k (f + 1) s w n).1.d i)) ∧
    (rsD k (f + 1) s w n).1.d 0 = n0 / 2 ^ k + 48 ∧ 0 < (rsD k (f + 1) s w n).2 ∧ (rsD k (f + 1) s w n).2 ≤ 800 := by
  intro f
  induction f with
  | zero =>
    intro s w n j hf hj hn hgw h0 hw0 hw8
    have hp := Nat.two_pow_pos k
    obtain ⟨c, rfl⟩ : 2 ^ k ∣ n := Nat.dvd_trans (Nat.pow_dvd_pow 2 (by omega)) hj
    have hq : 2 ^ k * c / 2 ^ k < 10 := by rw [Nat.div_lt_iff_lt_mul hp]; omega
    unfold rsD
    split
    · rename_i hz
      have hw : 0 < w := by
        rcases Nat.eq_zero_or_pos w with h | h
        · have := hw0 h; omega
        · exact h
      exact ⟨rfl, rfl, hgw, h0 hw, hw, hw8⟩
    · split
      · unfold rsD
        refine ⟨rfl, rfl, ?_, ?_, Nat.succ_pos _, by simp only; omega⟩
        · intro i hi
          simp only at hi
          rw [put_d]
          split
          · exact dig_of hq
          · exact hgw i (by omega)
        · simp only
          rw [put_d]
          split
          · rename_i h; rw [hw0 (by omega)]
          · exact h0 (by omega)
      · unfold rsD
        have hw : 0 < w := by omega
        refine ⟨?_, ?_, ?_, ?_, hw, hw8⟩
        · split <;> rfl
        · split <;> rfl
        · intro i hi
          have := hgw i hi
          split <;> exact this
        · have := h0 hw
          split <;> exact this
  | succ f ih =>
    intro s w n j hf hj hn hgw h0 hw0 hw8
    have hp := Nat.two_pow_pos k
    have hm : n % 2 ^ k < 2 ^ k := Nat.mod_lt _ hp
    have hq : n / 2 ^ k < 10 := by rw [Nat.div_lt_iff_lt_mul hp]; omega
    have hj' : 2 ^ (j + 1) ∣ n % 2 ^ k * 10 := by
      rcases Nat.lt_or_ge j k with hjk | hjk
      · have h1 : 2 ^ j ∣ n % 2 ^ k := by
          rw [Nat.dvd_mod_iff (Nat.pow_dvd_pow 2 (Nat.le_of_lt hjk))]
          exact hj
        obtain ⟨c, hc⟩ := h1
        exact ⟨c * 5, by rw [hc, Nat.pow_succ, show 2 ^ j * 2 * (c * 5) = 2 ^ j * c * 10 by rw [Nat.mul_assoc, Nat.mul_assoc]; congr 1; omega]⟩
      · have h1 : n % 2 ^ k = 0 := Nat.mod_eq_zero_of_dvd (Nat.dvd_trans (Nat.pow_dvd_pow 2 hjk) hj)
        rw [h1]; exact ⟨0, by simp⟩
    unfold rsD
    split
    · rename_i hz
      have hw : 0 < w := by
        rcases Nat.eq_zero_or_pos w with h | h
        · have := hw0 h; omega
        · exact h
      exact ⟨rfl, rfl, hgw, h0 hw, hw, hw8⟩
    · split
      · refine ih (s.put w (n / 2 ^ k + 48)) (w + 1) (n % 2 ^ k * 10) (j + 1) (by omega) hj' (by omega) ?_ ?_ (by omega) (by omega)
        · intro i hi
          rw [put_d]
          split
          · exact dig_of hq
          · exact hgw i (by omega)
        · intro _
          rw [put_d]
          split
          · rename_i h; rw [hw0 (by omega)]
          · exact h0 (by omega)
      · have hw : 0 < w := by omega
        have := ih (if 0 < n / 2 ^ k then { s with tr := true } else s) w (n % 2 ^ k * 10) (j + 1) (by omega) hj' (by omega) (by intro i hi; have := hgw i hi; split <;> exact this) (by intro h; have := h0 h; split <;> exact this) (by omega) hw8
        refine ⟨this.1.trans (by split <;> rfl), this.2.1.trans (by split <;> rfl), this.2.2⟩

/-- What rightShift leaves. -/
theorem rshift_ok (s : Dc) (k : Nat) (hs : s.Ok) (h1 : 0 < s.nd) (hk : k ≤ 60) :
    (s.rshift k).Ok ∧ 0 < (s.rshift k).nd ∧ (s.rshift k).dp ≤ s.dp ∧ s.dp - 1000 ≤ (s.rshift k).dp ∧
    ((s.rshift k).dp = s.dp → 2 ^ k ≤ s.d 0 - 48 ∧ (s.rshift k).d 0 = (s.d 0 - 48) / 2 ^ k + 48) := by
  have hA := rsA_ok s k hs h1 hk 1000 0 0 (by have := hs.le; omega) (.inl ⟨rfl, rfl⟩) (by omega) (by have := Nat.two_pow_pos k; omega) (by omega)
  have hC := rsC_ok k (rsA s k 1000 0 0).2 (rsA s k 1000 0 0).1 hk 1000 { s with dp := s.dp - (((rsA s k 1000 0 0).1 : Int) - 1) } (rsA s k 1000 0 0).1 0 (rsA s k 1000 0 0).2 (by have := hs.le; simp only; omega) hs.le (fun i _ hi => hs.dig i hi) (by omega) hA.2.1 (by intro i hi; omega) (by intro h; omega) (fun _ => rfl) (by omega)
  have hD := rsD_ok k (rsA s k 1000 0 0).2 hk ⟨hA.1, hA.2.1⟩ 99 (rsC k 1000 { s with dp := s.dp - (((rsA s k 1000 0 0).1 : Int) - 1) } (rsA s k 1000 0 0).1 0 (rsA s k 1000 0 0).2).1 _ _ 0 (by omega) (by simp) hC.2.2.2.1 hC.2.2.2.2.1 hC.2.2.2.2.2.1 hC.2.2.2.2.2.2.1 hC.2.2.2.2.2.2.2
  have hp := Nat.two_pow_pos k
  have hne : (rsA s k 1000 0 0).2 / 2 ^ k ≠ 0 := by rw [Ne, div_pow_zero]; omega
  have hT := trim_ok (s := { (rsD k 100 (rsC k 1000 { s with dp := s.dp - (((rsA s k 1000 0 0).1 : Int) - 1) } (rsA s k 1000 0 0).1 0 (rsA s k 1000 0 0).2).1 (rsC k 1000 { s with dp := s.dp - (((rsA s k 1000 0 0).1 : Int) - 1) } (rsA s k 1000 0 0).1 0 (rsA s k 1000 0 0).2).2.1 (rsC k 1000 { s with dp := s.dp - (((rsA s k 1000 0 0).1 : Int) - 1) } (rsA s k 1000 0 0).1 0 (rsA s k 1000 0 0).2).2.2).1 with nd := (rsD k 100 (rsC k 1000 { s with dp := s.dp - (((rsA s k 1000 0 0).1 : Int) - 1) } (rsA s k 1000 0 0).1 0 (rsA s k 1000 0 0).2).1 (rsC k 1000 { s with dp := s.dp - (((rsA s k 1000 0 0).1 : Int) - 1) } (rsA s k 1000 0 0).1 0 (rsA s k 1000 0 0).2).2.1 (rsC k 1000 { s with dp := s.dp - (((rsA s k 1000 0 0).1 : Int) - 1) } (rsA s k 1000 0 0).1 0 (rsA s k 1000 0 0).2).2.2).2 }) hD.2.2.2.2.2 hD.2.2.1 hD.2.2.2.2.1 (by simp only; rw [hD.2.2.2.1]; omega)
  have hdp : (s.rshift k).dp = s.dp - (((rsA s k 1000 0 0).1 : Int) - 1) := by
    refine hT.2.2.2.trans ?_
    simp only
    rw [hD.1, hC.2.1]
  refine ⟨hT.1, hT.2.1, ?_, ?_, ?_⟩
  · rw [hdp]; omega
  · rw [hdp]; omega
  · rw [hdp]
    intro h
    have hr1 : (rsA s k 1000 0 0).1 = 1 := by omega
    have hn := hA.2.2.2.2 hr1
    refine ⟨by rw [← hn]; exact hA.1, ?_⟩
    rw [← hn]
    refine (congrFun hT.2.2.1 0).trans ?_
    simp only
    exact hD.2.2.2.1

end Dc
end Go.Proofs.Qxb6606206aGreatDoor
