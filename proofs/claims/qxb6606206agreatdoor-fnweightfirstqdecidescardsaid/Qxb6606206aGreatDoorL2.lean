import Derived.Test.Qxb6606206aGreatDoorL1
set_option linter.unusedSimpArgs false
set_option linter.unusedVariables false
namespace Go.Proofs.Qxb6606206aGreatDoor
namespace Dc

/-- The number that the first n digits write. -/
def dv (d : Nat → Nat) : Nat → Nat
  | 0 => 0
  | n + 1 => dv d n * 10 + (d n - 48)
theorem dv_lt {d : Nat → Nat} : ∀ n, (∀ i, i < n → Dig (d i)) → dv d n < 10 ^ n
  | 0, _ => by simp [dv]
  | n + 1, h => by
    have h1 := dv_lt n fun i hi => h i (by omega)
    have h2 := h n (by omega)
    unfold Dig at h2
    rw [dv, Nat.pow_succ]
    omega
theorem dv_ge {d : Nat → Nat} (i : Nat) : ∀ j, dv d i * 10 ^ j ≤ dv d (i + j)
  | 0 => by simp
  | j + 1 => by
    have := dv_ge (d := d) i j
    rw [show i + (j + 1) = (i + j) + 1 by omega, dv, Nat.pow_succ, ← Nat.mul_assoc]
    omega
theorem dv_lt2 {d : Nat → Nat} (i : Nat) : ∀ j, (∀ q, q < i + j → Dig (d q)) → dv d (i + j) < (dv d i + 1) * 10 ^ j
  | 0, _ => by simp
  | j + 1, h => by
    have h1 := dv_lt2 (d := d) i j fun q hq => h q (by omega)
    have h2 := h (i + j) (by omega)
    unfold Dig at h2
    rw [show i + (j + 1) = (i + j) + 1 by omega, dv, Nat.pow_succ, ← Nat.mul_assoc]
    omega

/-- prefixIsLessThan. -/
def pil (d : Nat → Nat) (nd : Nat) (C : Nat → Nat) (c : Nat) : Nat → Nat → Bool
  | 0, _ => false
  | f + 1, i => if i < c then (if nd ≤ i then true else if d i = C i then pil d nd C c f (i + 1) else decide (d i < C i)) else false

theorem pil_spec {d : Nat → Nat} {nd : Nat} {C : Nat → Nat} {c : Nat} (hd : ∀ i, i < nd → Dig (d i)) (hC : ∀ i, i < c → Dig (C i)) (hc : 0 < c) (hl : C (c - 1) ≠ 48) :
    ∀ f i, c < f + i → i ≤ c → i ≤ nd → dv d i = dv C i →
      (pil d nd C c f i = true → dv d nd * 10 ^ c < dv C c * 10 ^ nd) ∧ (pil d nd C c f i = false → dv C c * 10 ^ nd ≤ dv d nd * 10 ^ c)
  | 0, i, hf, hi, hn, e => by omega
  | f + 1, i, hf, hi, hn, e => by
    unfold pil
    split
    · rename_i hic
      split
      · rename_i hni
        obtain rfl : i = nd := by omega
        refine ⟨fun _ => ?_, fun h => by simp at h⟩
        rw [e]
        have h1 := dv_ge (d := C) i (c - 1 - i)
        have h2 := hC (c - 1) (by omega)
        unfold Dig at h2
        have h3 : dv C c = dv C (c - 1) * 10 + (C (c - 1) - 48) := by
          obtain ⟨b, rfl⟩ : ∃ b, c = b + 1 := ⟨c - 1, by omega⟩
          rfl
        rw [show i + (c - 1 - i) = c - 1 by omega] at h1
        have h4 : dv C i * 10 ^ (c - i) < dv C c := by
          rw [show c - i = (c - 1 - i) + 1 by omega, Nat.pow_succ, ← Nat.mul_assoc]
          omega
        have h5 : (10 : Nat) ^ c = 10 ^ (c - i) * 10 ^ i := by rw [← Nat.pow_add]; congr 1; omega
        rw [h5, ← Nat.mul_assoc]
        exact Nat.mul_lt_mul_of_pos_right h4 (Nat.pow_pos (by decide))
      · rename_i hni
        split
        · rename_i he
          exact pil_spec hd hC hc hl f (i + 1) (by omega) (by omega) (by omega) (by rw [dv, dv, e, he])
        · rename_i he
          have g1 := hd i (by omega)
          have g2 := hC i (by omega)
          unfold Dig at g1 g2
          have a1 := dv_lt2 (d := d) (i + 1) (nd - (i + 1)) (by intro q hq; exact hd q (by omega))
          have a2 := dv_ge (d := d) (i + 1) (nd - (i + 1))
          have b1 := dv_lt2 (d := C) (i + 1) (c - (i + 1)) (by intro q hq; exact hC q (by omega))
          have b2 := dv_ge (d := C) (i + 1) (c - (i + 1))
          rw [show i + 1 + (nd - (i + 1)) = nd by omega] at a1 a2
          rw [show i + 1 + (c - (i + 1)) = c by omega] at b1 b2
          have p1 : (10 : Nat) ^ (nd - (i + 1)) * 10 ^ c = 10 ^ (c - (i + 1)) * 10 ^ nd := by
            rw [← Nat.pow_add, ← Nat.pow_add]; congr 1; omega
          have q1 : 0 < (10 : Nat) ^ c := Nat.pow_pos (by decide)
          have q2 : 0 < (10 : Nat) ^ nd := Nat.pow_pos (by decide)
          rw [dv] at a1 a2
          rw [dv] at b1 b2
          rw [e] at a1 a2
          constructor
          · intro hlt
            have hlt := of_decide_eq_true hlt
            have c1 : (dv C i * 10 + (d i - 48) + 1) ≤ (dv C i * 10 + (C i - 48)) := by omega
            calc dv d nd * 10 ^ c < ((dv C i * 10 + (d i - 48) + 1) * 10 ^ (nd - (i + 1))) * 10 ^ c := Nat.mul_lt_mul_of_pos_right a1 q1
              _ ≤ ((dv C i * 10 + (C i - 48)) * 10 ^ (nd - (i + 1))) * 10 ^ c := Nat.mul_le_mul_right _ (Nat.mul_le_mul_right _ c1)
              _ = ((dv C i * 10 + (C i - 48)) * 10 ^ (c - (i + 1))) * 10 ^ nd := by rw [Nat.mul_assoc, p1, ← Nat.mul_assoc]
              _ ≤ dv C c * 10 ^ nd := Nat.mul_le_mul_right _ b2
          · intro hlt
            have hlt := of_decide_eq_false hlt
            have c1 : (dv C i * 10 + (C i - 48) + 1) ≤ (dv C i * 10 + (d i - 48)) := by omega
            refine Nat.le_of_lt ?_
            calc dv C c * 10 ^ nd < ((dv C i * 10 + (C i - 48) + 1) * 10 ^ (c - (i + 1))) * 10 ^ nd := Nat.mul_lt_mul_of_pos_right b1 q2
              _ ≤ ((dv C i * 10 + (d i - 48)) * 10 ^ (c - (i + 1))) * 10 ^ nd := Nat.mul_le_mul_right _ (Nat.mul_le_mul_right _ c1)
              _ = ((dv C i * 10 + (d i - 48)) * 10 ^ (nd - (i + 1))) * 10 ^ c := by rw [Nat.mul_assoc, ← p1, ← Nat.mul_assoc]
              _ ≤ dv d nd * 10 ^ c := Nat.mul_le_mul_right _ a2
    · rename_i hic
      obtain rfl : i = c := by omega
      refine ⟨fun h => by simp at h, fun _ => ?_⟩
      have h1 := dv_ge (d := d) i (nd - i)
      rw [show i + (nd - i) = nd by omega, e] at h1
      have h5 : (10 : Nat) ^ nd = 10 ^ (nd - i) * 10 ^ i := by rw [← Nat.pow_add]; congr 1; omega
      rw [h5, ← Nat.mul_assoc]
      exact Nat.mul_le_mul_right _ h1

/-- What a row of the table 'leftcheats' says. -/
structure Cheat (k δ : Nat) (C : Nat → Nat) (c : Nat) : Prop where
  prod : dv C c * 2 ^ k = 10 ^ (c + δ - 1)
  lo : 10 ^ (δ - 1) ≤ 2 ^ k
  hi : 2 ^ k < 10 ^ δ
  pos : 1 ≤ δ
  dig : ∀ i, i < c → Dig (C i)
  cpos : 0 < c
  last : C (c - 1) ≠ 48
  small : δ ≤ 20
  csm : c ≤ 60

/-- How many digits the shift adds. -/
def lad (s : Dc) (δ : Nat) (C : Nat → Nat) (c : Nat) : Nat := δ - (if pil s.d s.nd C c 100 0 then 1 else 0)

theorem lad_spec {s : Dc} {k δ c : Nat} {C : Nat → Nat} (hs : s.Ok) (h1 : 0 < s.nd) (hT : Cheat k δ C c) :
    10 ^ (s.nd + lad s δ C c - 1) ≤ dv s.d s.nd * 2 ^ k ∧ dv s.d s.nd * 2 ^ k < 10 ^ (s.nd + lad s δ C c) := by
  have hpos := hT.pos
  have hcpos := hT.cpos
  have hp := pil_spec hs.dig hT.dig hT.cpos hT.last 100 0 (by have := hT.csm; omega) (by omega) (by omega) rfl
  have hlt := dv_lt s.nd hs.dig
  have hge : 10 ^ (s.nd - 1) ≤ dv s.d s.nd := by
    have := dv_ge (d := s.d) 1 (s.nd - 1)
    rw [show 1 + (s.nd - 1) = s.nd by omega] at this
    have h2 : 1 ≤ dv s.d 1 := by
      have h3 := hs.fst h1
      have h4 := hs.dig 0 h1
      unfold Dig at h4
      simp only [dv]
      omega
    exact Nat.le_trans (by simpa using Nat.mul_le_mul_right (10 ^ (s.nd - 1)) h2) this
  have pc : 0 < (10 : Nat) ^ c := Nat.pow_pos (by decide)
  unfold lad
  cases h : pil s.d s.nd C c 100 0 with
  | true =>
    have := hp.1 h
    simp only [if_true]
    constructor
    · have e : (10 : Nat) ^ (s.nd + (δ - 1) - 1) = 10 ^ (s.nd - 1) * 10 ^ (δ - 1) := by rw [← Nat.pow_add]; congr 1; omega
      rw [e]
      exact Nat.mul_le_mul hge hT.lo
    · have h3 := Nat.mul_lt_mul_of_pos_right this (Nat.two_pow_pos k)
      have e1 : dv C c * 10 ^ s.nd * 2 ^ k = 10 ^ (s.nd + (δ - 1)) * 10 ^ c := by
        rw [Nat.mul_right_comm, hT.prod, ← Nat.pow_add, ← Nat.pow_add]; congr 1; omega
      rw [e1, Nat.mul_right_comm] at h3
      exact Nat.lt_of_mul_lt_mul_right h3
  | false =>
    have := hp.2 h
    simp only [Bool.false_eq_true, if_false, Nat.sub_zero]
    constructor
    · have h3 := Nat.mul_le_mul_right (2 ^ k) this
      have e1 : dv C c * 10 ^ s.nd * 2 ^ k = 10 ^ (s.nd + δ - 1) * 10 ^ c := by
        rw [Nat.mul_right_comm, hT.prod, ← Nat.pow_add, ← Nat.pow_add]; congr 1; omega
      rw [e1, Nat.mul_right_comm] at h3
      exact Nat.le_of_mul_le_mul_right h3 pc
    · rw [Nat.pow_add]
      exact Nat.lt_of_le_of_lt (Nat.mul_le_mul_left _ (Nat.le_of_lt hT.hi)) (Nat.mul_lt_mul_of_pos_right hlt (Nat.pow_pos (by decide)))

/-- A digit put down at w, or the mark that one was lost. -/
def drop1 (s : Dc) (w v : Nat) : Dc := if w < 800 then s.put w (v + 48) else if v = 0 then s else { s with tr := true }
theorem drop1_nd (s : Dc) (w v : Nat) : (s.drop1 w v).nd = s.nd := by unfold drop1; split; rfl; split <;> rfl
theorem drop1_dp (s : Dc) (w v : Nat) : (s.drop1 w v).dp = s.dp := by unfold drop1; split; rfl; split <;> rfl
theorem drop1_d (s : Dc) (w v j : Nat) : (s.drop1 w v).d j = if j = w ∧ w < 800 then v + 48 else s.d j := by
  unfold drop1
  by_cases h : w < 800
  · rw [if_pos h, put_d]
    by_cases e : j = w
    · rw [if_pos e, if_pos ⟨e, h⟩]
    · rw [if_neg e, if_neg (fun g => e g.1)]
  · rw [if_neg h, if_neg (c := j = w ∧ w < 800) (fun g => h g.2)]
    split <;> rfl

/-- The first loop of leftShift; r digits are left. -/
def lsA (k : Nat) : Nat → Dc → Nat → Nat → Dc × Nat × Nat
  | 0, s, w, n => (s, w, n)
  | r + 1, s, w, n => lsA k r (s.drop1 (w - 1) ((n + (s.d r - 48) * 2 ^ k) % 10)) (w - 1) ((n + (s.d r - 48) * 2 ^ k) / 10)
/-- The second. -/
def lsB : Nat → Dc → Nat → Nat → Dc × Nat
  | 0, s, w, n => (s, w)
  | f + 1, s, w, n => if n = 0 then (s, w) else lsB f (s.drop1 (w - 1) (n % 10)) (w - 1) (n / 10)
def lshift (s : Dc) (k δ : Nat) (C : Nat → Nat) (c : Nat) : Dc :=
  let a := lsA k s.nd s (s.nd + lad s δ C c) 0
  let b := lsB 100 a.1 a.2.1 a.2.2
  trim { b.1 with nd := if 800 ≤ s.nd + lad s δ C c then 800 else s.nd + lad s δ C c, dp := s.dp + lad s δ C c }

theorem lsA_ok {s0 : Dc} {k δ A N : Nat} (hk : k ≤ 60) (hs : s0.Ok) (hA : A = dv s0.d s0.nd * 2 ^ k) (hN : N = s0.nd + δ) (hnd : 0 < s0.nd) :
    ∀ (r : Nat) (s : Dc) (w n : Nat), r ≤ s0.nd → w = r + δ → (∀ i, i < r → s.d i = s0.d i) → n + dv s0.d r * 2 ^ k = A / 10 ^ (s0.nd - r) → (∀ i, w ≤ i → i < N → i < 800 → Dig (s.d i)) → (w = 0 → s.d 0 = A / 10 ^ (N - 1) % 10 + 48) →
      (lsA k r s w n).1.nd = s.nd ∧ (lsA k r s w n).1.dp = s.dp ∧ (lsA k r s w n).2.1 = δ ∧ (lsA k r s w n).2.2 = A / 10 ^ s0.nd ∧ (∀ i, δ ≤ i → i < N → i < 800 → Dig ((lsA k r s w n).1.d i)) ∧ (δ = 0 → (lsA k r s w n).1.d 0 = A / 10 ^ (N - 1) % 10 + 48)
  | 0, s, w, n, hr, hw, hd, hn, hg, h0 => by
    have e : n = A / 10 ^ s0.nd := by simpa [dv] using hn
    obtain rfl : w = δ := by omega
    exact ⟨rfl, rfl, rfl, e, hg, h0⟩
  | r + 1, s, w, n, hr, hw, hd, hn, hg, h0 => by
    unfold lsA
    have hdr := hd r (by omega)
    have hQ : A / 10 ^ (s0.nd - r) = A / 10 ^ (s0.nd - (r + 1)) / 10 := by
      rw [Nat.div_div_eq_div_mul, ← Nat.pow_succ]; congr 2; omega
    rw [dv] at hn
    have e1 : n + (s.d r - 48) * 2 ^ k + 10 * (dv s0.d r * 2 ^ k) = A / 10 ^ (s0.nd - (r + 1)) := by
      rw [← hn, hdr, Nat.add_mul]
      have : dv s0.d r * 10 * 2 ^ k = 10 * (dv s0.d r * 2 ^ k) := by rw [Nat.mul_comm (dv s0.d r) 10, Nat.mul_assoc]
      omega
    have e2 : (n + (s.d r - 48) * 2 ^ k) / 10 + dv s0.d r * 2 ^ k = A / 10 ^ (s0.nd - r) := by
      rw [hQ, ← e1]; omega
    have e3 : (n + (s.d r - 48) * 2 ^ k) % 10 = A / 10 ^ (s0.nd - (r + 1)) % 10 := by
      rw [← e1]; omega
    have hlt : (n + (s.d r - 48) * 2 ^ k) % 10 < 10 := Nat.mod_lt _ (by decide)
    have := lsA_ok hk hs hA hN hnd r (s.drop1 (w - 1) ((n + (s.d r - 48) * 2 ^ k) % 10)) (w - 1) ((n + (s.d r - 48) * 2 ^ k) / 10) (by omega) (by omega)
      (by
        intro i hi
        rw [drop1_d, if_neg (by omega)]
        exact hd i (by omega))
      e2
      (by
        intro i hi hiN hi8
        rw [drop1_d]
        split
        · exact dig_of hlt
        · exact hg i (by omega) hiN hi8)
      (by
        intro hw0
        rw [drop1_d, if_pos (by omega), e3]
        congr 4
        omega)
    rw [drop1_nd, drop1_dp] at this
    exact this

theorem lsB_ok {A N : Nat} (hlo : 10 ^ (N - 1) ≤ A) (hN : 0 < N) :
    ∀ (f : Nat) (s : Dc) (w n : Nat), w < f → w ≤ N → n = A / 10 ^ (N - w) → A < 10 ^ N → (∀ i, w ≤ i → i < N → i < 800 → Dig (s.d i)) → (w = 0 → s.d 0 = A / 10 ^ (N - 1) % 10 + 48) →
      (lsB f s w n).1.nd = s.nd ∧ (lsB f s w n).1.dp = s.dp ∧ (lsB f s w n).2 = 0 ∧ (∀ i, i < N → i < 800 → Dig ((lsB f s w n).1.d i)) ∧ (lsB f s w n).1.d 0 = A / 10 ^ (N - 1) % 10 + 48
  | 0, s, w, n, hf, hw, hn, hA, hg, h0 => by omega
  | f + 1, s, w, n, hf, hw, hn, hA, hg, h0 => by
    unfold lsB
    split
    · rename_i hz
      have hw0 : w = 0 := by
        rcases Nat.eq_zero_or_pos w with h | h
        · exact h
        · exfalso
          have h1 : 10 ^ (N - w) ≤ 10 ^ (N - 1) := Nat.pow_le_pow_right (by decide) (by omega)
          have h2 : 0 < A / 10 ^ (N - w) := Nat.div_pos (by omega) (Nat.pow_pos (by decide))
          omega
      subst hw0
      exact ⟨rfl, rfl, rfl, fun i h1 h2 => hg i (by omega) h1 h2, h0 rfl⟩
    · rename_i hz
      have hwp : 0 < w := by
        rcases Nat.eq_zero_or_pos w with h | h
        · exfalso
          subst h
          rw [Nat.sub_zero, Nat.div_eq_of_lt hA] at hn
          exact hz hn
        · exact h
      have hlt : n % 10 < 10 := Nat.mod_lt _ (by decide)
      have := lsB_ok hlo hN f (s.drop1 (w - 1) (n % 10)) (w - 1) (n / 10) (by omega) (by omega)
        (by rw [hn, Nat.div_div_eq_div_mul, ← Nat.pow_succ]; congr 2; omega) hA
        (by
          intro i hi hiN hi8
          rw [drop1_d]
          split
          · exact dig_of hlt
          · exact hg i (by omega) hiN hi8)
        (by
          intro hw0
          rw [drop1_d, if_pos (by omega), hn]
          congr 4
          omega)
      rw [drop1_nd, drop1_dp] at this
      exact this

/-- What leftShift leaves. -/
theorem lshift_ok (s : Dc) {k δ c : Nat} {C : Nat → Nat} (hs : s.Ok) (h1 : 0 < s.nd) (hk : k ≤ 60) (hk1 : 1 ≤ k) (hT : Cheat k δ C c) :
    (s.lshift k δ C c).Ok ∧ 0 < (s.lshift k δ C c).nd ∧ s.dp ≤ (s.lshift k δ C c).dp ∧ (s.lshift k δ C c).dp ≤ s.dp + 20 ∧
    ((s.lshift k δ C c).dp = s.dp → s.d 0 < (s.lshift k δ C c).d 0) := by
  have hsp := lad_spec hs h1 hT
  have hle : lad s δ C c ≤ 20 := by
    have := hT.small
    unfold lad
    omega
  generalize hL : lad s δ C c = L at hsp hle
  have hA := lsA_ok (s0 := s) (k := k) (δ := L) hk hs rfl rfl h1 s.nd s (s.nd + L) 0 (Nat.le_refl _) rfl (fun _ _ => rfl) (by simp) (by intro i a b; omega) (by omega)
  have hB := lsB_ok (A := dv s.d s.nd * 2 ^ k) (N := s.nd + L) hsp.1 (by omega) 100 (lsA k s.nd s (s.nd + L) 0).1 (lsA k s.nd s (s.nd + L) 0).2.1 (lsA k s.nd s (s.nd + L) 0).2.2 (by rw [hA.2.2.1]; omega) (by rw [hA.2.2.1]; omega) (by rw [hA.2.2.2.1, hA.2.2.1]; congr 2; omega) hsp.2 (by rw [hA.2.2.1]; exact hA.2.2.2.2.1) (by rw [hA.2.2.1]; exact hA.2.2.2.2.2)
  have hpp : 0 < (10 : Nat) ^ (s.nd + L - 1) := Nat.pow_pos (by decide)
  have hq1 : 0 < dv s.d s.nd * 2 ^ k / 10 ^ (s.nd + L - 1) := Nat.div_pos hsp.1 hpp
  have hq2 : dv s.d s.nd * 2 ^ k / 10 ^ (s.nd + L - 1) < 10 := by
    rw [Nat.div_lt_iff_lt_mul hpp]
    have e : 10 * 10 ^ (s.nd + L - 1) = 10 ^ (s.nd + L) := by
      rw [Nat.mul_comm, ← Nat.pow_succ]; congr 1; omega
    rw [e]
    exact hsp.2
  rw [Nat.mod_eq_of_lt hq2] at hB
  have hT2 := trim_ok (s := { (lsB 100 (lsA k s.nd s (s.nd + L) 0).1 (lsA k s.nd s (s.nd + L) 0).2.1 (lsA k s.nd s (s.nd + L) 0).2.2).1 with nd := if 800 ≤ s.nd + L then 800 else s.nd + L, dp := s.dp + L })
    (by simp only; split <;> omega) (by simp only; intro i hi; exact hB.2.2.2.1 i (by split at hi <;> omega) (by split at hi <;> omega)) (by simp only; split <;> omega) (by simp only; rw [hB.2.2.2.2]; omega)
  have hd : s.lshift k δ C c = trim { (lsB 100 (lsA k s.nd s (s.nd + L) 0).1 (lsA k s.nd s (s.nd + L) 0).2.1 (lsA k s.nd s (s.nd + L) 0).2.2).1 with nd := if 800 ≤ s.nd + L then 800 else s.nd + L, dp := s.dp + L } := by
    unfold lshift; rw [hL]
  rw [hd]
  refine ⟨hT2.1, hT2.2.1, ?_, ?_, ?_⟩
  · rw [hT2.2.2.2]; simp only; omega
  · rw [hT2.2.2.2]; simp only; omega
  · rw [hT2.2.2.2, hT2.2.2.1]
    simp only
    intro h
    obtain rfl : L = 0 := by omega
    rw [hB.2.2.2.2]
    have g := hs.dig 0 h1
    have g0 := hs.fst h1
    unfold Dig at g
    have h3 := dv_ge (d := s.d) 1 (s.nd - 1)
    rw [show 1 + (s.nd - 1) = s.nd by omega] at h3
    simp only [dv, Nat.zero_mul, Nat.zero_add] at h3
    have h4 : (s.d 0 - 48) * 2 ≤ dv s.d s.nd * 2 ^ k / 10 ^ (s.nd + 0 - 1) := by
      rw [Nat.le_div_iff_mul_le hpp]
      have h5 : 2 ≤ 2 ^ k := by
        calc 2 = 2 ^ 1 := rfl
          _ ≤ 2 ^ k := Nat.pow_le_pow_right (by decide) hk1
      calc (s.d 0 - 48) * 2 * 10 ^ (s.nd + 0 - 1) = (s.d 0 - 48) * 10 ^ (s.nd - 1) * 2 := by rw [Nat.mul_right_comm]; rfl
        _ ≤ dv s.d s.nd * 2 ^ k := Nat.mul_le_mul h3 h5
    omega

end Dc
end Go.Proofs.Qxb6606206aGreatDoor
