import Derived.Test.Qxb6606206aGreatDoorW15
import Derived.Test.Qxb6606206aGreatDoorL4
import Derived.Laws.BitsAllLaws
import Derived.LaidEqlPtr
set_option linter.unusedSimpArgs false
set_option linter.unusedVariables false
namespace Go.Proofs.Qxb6606206aGreatDoor
open Go Go.RowKit
attribute [local go_sem] frombits_run shlv_1 shlv_2
attribute [local go_sem high] shl_u64_52

/-- 'm>>1 | m&1'. -/
def hs (m : Int) : Int := bits .or .u64 (m / 2) (bits .and .u64 m 1)
theorem hs_lt {m : Int} {j : Nat} (h0 : 0 ≤ m) (h1 : m ≤ 18446744073709551615) (hj : m < 2 ^ (j + 1)) (hj1 : 1 ≤ j) : 0 ≤ hs m ∧ hs m ≤ 18446744073709551615 ∧ hs m < 2 ^ j := by
  have w := wrap_within .u64
  obtain ⟨n, rfl⟩ : ∃ n : Nat, m = n := ⟨m.toNat, by omega⟩
  have e1 : bits .and .u64 (n : Int) 1 = ((n % 2 : Nat) : Int) := by
    rw [u64_and _ _ (by omega) (by omega) (by omega) (by omega)]
    simp only [Int.toNat_natCast]
    rw [show (1 : Int).toNat = 2 ^ 1 - 1 by decide, Nat.and_two_pow_sub_one_eq_mod]
  have hn : n < 2 ^ (j + 1) := by exact_mod_cast hj
  have hn2 : n / 2 < 2 ^ j := by rw [Nat.pow_succ] at hn; omega
  have hp : 1 < 2 ^ j := Nat.one_lt_two_pow (by omega)
  have e2 : hs n = ((n / 2 ||| n % 2 : Nat) : Int) := by
    unfold hs
    rw [e1, show ((n : Int) / 2) = ((n / 2 : Nat) : Int) by omega, u64_or _ _ (by omega) (by omega) (by omega) (by omega)]
    simp only [Int.toNat_natCast]
  have hlt : (n / 2 ||| n % 2) < 2 ^ j := Nat.or_lt_two_pow hn2 (by omega)
  have hlt64 : (n / 2 ||| n % 2) < 2 ^ 64 := Nat.or_lt_two_pow (by omega) (by omega)
  rw [e2]
  refine ⟨by omega, ?_, by exact_mod_cast hlt⟩
  have : ((2 : Nat) ^ 64) = 18446744073709551616 := by decide
  omega

def h1 : Nat → Int → Int → Int × Int
  | 0, m, e => (m, e)
  | f + 1, m, e => if m ≠ 0 ∧ m < 18014398509481984 then h1 f (m * 2) (e - 1) else (m, e)
def h2 : Nat → Int → Int → Int × Int
  | 0, m, e => (m, e)
  | f + 1, m, e => if m ≥ 36028797018963968 then h2 f (hs m) (e + 1) else (m, e)
def h3 : Nat → Int → Int → Int × Int
  | 0, m, e => (m, e)
  | f + 1, m, e => if m > 1 ∧ e < -1024 then h3 f (hs m) (e + 1) else (m, e)

/-- Behind the loops. -/
def hxR (m e : Int) (neg : Bool) : Int × Bool :=
  let m1 := m / 4
  let b3 := (bits .or .u64 (bits .and .u64 m 3) (bits .and .u64 m1 1) == 3)
  let p2 : Int × Int := if b3 then (if (m1 + 1 == 9007199254740992) = true then (4503599627370496, e + 2 + 1) else (m1 + 1, e + 2)) else (m1, e + 2)
  let e3 := if (p2.1 / 4503599627370496 == 0) = true then -1023 else p2.2
  if e3 > 1023 then (finB 4503599627370496 1024 neg, true) else (finB p2.1 e3 neg, false)

theorem info101 : (Tryz.prog.info? 101).map (·.size) = some 3 := by kernel_rfl
/-- Two of the package's variables: their addresses differ. -/
def Two (w : World) : Prop := (∃ c t, w.heap[10]? = some (.cells c t (0, 0))) ∧ ∃ c t, w.heap[8]? = some (.cells c t (0, 0))
theorem Two.eql {w : World} (h : Two w) : (binOp .eql 99 (.pointer (some ⟨10, 0, none⟩)) (.pointer (some ⟨8, 0, none⟩))).run Tryz.prog w = .ok (.bool false) w := by
  obtain ⟨⟨c, t, h1⟩, c', t', h2⟩ := h
  obtain ⟨j, hj, hs⟩ := Option.map_eq_some_iff.1 info101
  exact run_eql_ptr_other w Tryz.underlying99 hj (by rw [hs]; decide) (by simp) h1 h2
theorem Two.below {w w' : World} {B : Nat} (h : Two w) (hb : Below B w w') (h10 : 10 < B) : Two w' := by
  obtain ⟨⟨c, t, h1⟩, c', t', h2⟩ := h
  exact ⟨⟨c, t, (hb.block 10 h10).trans h1⟩, c', t', (hb.block 8 (by omega)).trans h2⟩
def HexP (w : World) (f : Int) (ov : Bool) (e : Ending) (w' : World) : Prop := e = .returned (.tuple #[.float .f64 f.toNat, if ov then .iface 65 (.int .i64 1) else .nilIface]) ∧ Below w.heap.size w w'

set_option maxHeartbeats 12800000 in
set_option maxRecDepth 20000 in
theorem hex_gives (m e : Int) (neg trunc : Bool) (hm0 : 0 ≤ m) (hm1 : m ≤ 18446744073709551615) (he0 : -1000000000000 ≤ e) (he1 : e ≤ 1000000000000) :
    ∃ f ov, ∀ (s : ByteArray) (w : World), w.cell? ⟨10, 0, none⟩ = some (.int .u64 52) → w.cell? ⟨10, 1, none⟩ = some (.int .u64 11) → w.cell? ⟨10, 2, none⟩ = some (.int .i64 (-1023)) → Two w →
      Calls Tryz.prog 73 #[.string s, .pointer (some ⟨10, 0, none⟩), .int .u64 m, .int .i64 e, .bool neg, .bool trunc] w (HexP w f ov) := by
  obtain ⟨A, hA⟩ : ∃ A, h1 64 m (e + 52) = A := ⟨_, rfl⟩
  obtain ⟨ma, ea⟩ := A
  obtain ⟨mb, hmb⟩ : ∃ mb : Int, mb = if trunc then bits .or .u64 ma 1 else ma := ⟨_, rfl⟩
  obtain ⟨C, hC⟩ : ∃ C, h2 64 mb ea = C := ⟨_, rfl⟩
  obtain ⟨mc, ec⟩ := C
  obtain ⟨D, hD⟩ : ∃ D, h3 64 mc ec = D := ⟨_, rfl⟩
  obtain ⟨md, ed⟩ := D
  obtain ⟨r, hr⟩ : ∃ r, hxR md ed neg = r := ⟨_, rfl⟩
  refine ⟨r.1, r.2, fun str w i0 i1 i2 h2w => ?_⟩
  have HA := hid_of hA
  have HMB := hid_of hmb
  have HC := hid_of hC
  have HD := hid_of hD
  have HR := hid_of hr
  have hlt10 : 10 < w.heap.size := World.block_lt_of_cell? w _ i0
  have H2W := hid_of h2w
  clear h2w
  have hI : ∀ w', Below w.heap.size w w' → w'.cell? ⟨10, 0, none⟩ = some (.int .u64 52) ∧ w'.cell? ⟨10, 1, none⟩ = some (.int .u64 11) ∧ w'.cell? ⟨10, 2, none⟩ = some (.int .i64 (-1023)) := fun w' hb => ⟨(hb.cell (p := ⟨10, 0, none⟩) hlt10).trans i0, (hb.cell (p := ⟨10, 1, none⟩) hlt10).trans i1, (hb.cell (p := ⟨10, 2, none⟩) hlt10).trans i2⟩
  clear hA hmb hC hD hr
  go_enter Tryz.func73, Tryz.ntmps73
  go_wp2_with fail
  go_quiet (fail)
  have HB := hid_of (below_drewN (Below.refl w.heap.size w) nq)
  have j0 := (hI _ HB.out).1
  have j1 := (hI _ HB.out).2.1
  have j2 := (hI _ HB.out).2.2
  clear i0 i1 i2
  go_upto_block 0 with fail
  go_cut [2, 3] from 42 to 57 (fun v2 v3 wr => v2 = .int .u64 ma ∧ v3 = .int .i64 ea ∧ Below w.heap.size w wr ∧ 0 ≤ ma ∧ ma ≤ 18446744073709551615 ∧ -1000000000100 ≤ ea ∧ ea ≤ 1000000000100)
  case first =>
    clear HMB HC HD HR
    go_wp2_with fail
    go_loopg [2, 3] 64 (fun f v2 v3 wr => ∃ (x y : Int), v2 = .int .u64 x ∧ v3 = .int .i64 y ∧ Below w.heap.size w wr ∧ 0 ≤ x ∧ x ≤ 18446744073709551615 ∧ f ≤ 64 ∧ y ≤ e + 52 ∧ e + 52 - (64 - (f : Int)) ≤ y ∧ Hid (x ≠ 0 → (2 : Int) ^ (64 - f) ≤ x) ∧ Hid (h1 f x y = (ma, ea)))
    case atStart => exact ⟨m, e + 52, rfl, rfl, HB.out, hm0, hm1, by omega, by omega, by omega, hid_of (fun h => by simp; omega), HA⟩
    case round =>
      obtain ⟨x, y, rfl, rfl, hb, hx0, hx1, hf, hy0, hy1, hpw, hq⟩ := hrel
      have hbb := hid_of hb
      have k0 := (hI _ hb).1
      clear hb HA HB j0 j1 j2
      by_cases hx : x = 0
      · have he : (x, y) = (ma, ea) := by
          rw [← hq.out]
          cases gk with
          | zero => rfl
          | succ f => rw [h1, if_neg (fun h => h.1 hx)]
        simp only [Prod.mk.injEq] at he
        obtain ⟨rfl, rfl⟩ := he
        subst hx
        go_wp2_with fail
        go_meet
        exact ⟨rfl, rfl, hbb.out, by omega, by omega, by omega, by omega⟩
      · by_cases hlt : x < 18014398509481984
        · have hgk : gk ≠ 0 := by
            rintro rfl
            have := hpw.out hx
            simp at this
            omega
          obtain ⟨f, rfl⟩ : ∃ f, gk = f + 1 := ⟨gk - 1, by omega⟩
          have hst : Hid (h1 (f + 1) x y = h1 f (x * 2) (y - 1)) := by show _ = _; rw [h1, if_pos ⟨hx, hlt⟩]
          have hpw2 : Hid (x * 2 ≠ 0 → (2 : Int) ^ (64 - f) ≤ x * 2) := by
            intro _
            have := hpw.out hx
            rw [show 64 - f = (64 - (f + 1)) + 1 by omega, Int.pow_succ]
            omega
          have hq0 : (x / 18014398509481984 == 0) = true := by rw [beq_iff_eq]; omega
          have hne : (x != 0) = true := bne_iff_ne.2 hx
          go_wp2_with fail
          go_roundg f
          case measure => omega
          case rel =>
            refine ⟨x * 2, y - 1, rfl, rfl, hbb.out, by omega, by omega, by omega, by omega, by omega, hpw2, ?_⟩
            show _ = _
            rw [← hst.out]; exact hq.out
        · have he : (x, y) = (ma, ea) := by
            rw [← hq.out]
            cases gk with
            | zero => rfl
            | succ f => rw [h1, if_neg (fun h => hlt h.2)]
          simp only [Prod.mk.injEq] at he
          obtain ⟨rfl, rfl⟩ := he
          have hq0 : (x / 18014398509481984 == 0) = false := by rw [beq_eq_false_iff_ne]; omega
          have hne : (x != 0) = true := bne_iff_ne.2 hx
          go_wp2_with fail
          go_meet
          exact ⟨rfl, rfl, hbb.out, by omega, by omega, by omega, by omega⟩
  case rest =>
  obtain ⟨rfl, rfl, hb, hma0, hma1, hea0, hea1⟩ := hcut
  clear HB HA
  have HB := hid_of hb
  clear hb j0 j1 j2
  have j0 := (hI _ HB.out).1
  have j1 := (hI _ HB.out).2.1
  have j2 := (hI _ HB.out).2.2
  go_upto_if 58 with fail
  go_cut [2] from 59 to 60 (fun v2 wr => v2 = .int .u64 mb ∧ Below w.heap.size w wr ∧ 0 ≤ mb ∧ mb ≤ 18446744073709551615)
  case first =>
    have x1 := HMB.out
    clear HMB HC HD HR
    have ww := wrap_within .u64
    cases trunc with
    | true =>
      simp only [if_true] at x1
      have hb1 : 0 ≤ mb ∧ mb ≤ 18446744073709551615 := by rw [x1]; exact bits_within .or .u64 ma 1
      subst x1
      go_wp2_with fail
      go_meet
      exact ⟨rfl, HB.out, hb1.1, hb1.2⟩
    | false =>
      simp only [if_false, Bool.false_eq_true] at x1
      subst x1
      go_wp2_with fail
      go_meet
      exact ⟨rfl, HB.out, by omega, by omega⟩
  case rest =>
  obtain ⟨rfl, hb, hmb0, hmb1⟩ := hcut
  clear HB HMB
  have HB := hid_of hb
  clear hb j0 j1 j2
  have j0 := (hI _ HB.out).1
  have j1 := (hI _ HB.out).2.1
  have j2 := (hI _ HB.out).2.2
  go_upto_block 2 with fail
  go_cut [2, 3] from 61 to 76 (fun v2 v3 wr => v2 = .int .u64 mc ∧ v3 = .int .i64 ec ∧ Below w.heap.size w wr ∧ 0 ≤ mc ∧ mc ≤ 18446744073709551615 ∧ ea ≤ ec ∧ ec ≤ ea + 64)
  case first =>
    clear HD HR
    go_wp2_with fail
    go_loopg [2, 3] 64 (fun f v2 v3 wr => ∃ (x y : Int), v2 = .int .u64 x ∧ v3 = .int .i64 y ∧ Below w.heap.size w wr ∧ 0 ≤ x ∧ x ≤ 18446744073709551615 ∧ f ≤ 64 ∧ ea ≤ y ∧ y ≤ ea + (64 - (f : Int)) ∧ Hid (x < (2 : Int) ^ f) ∧ Hid (h2 f x y = (mc, ec)))
    case atStart => exact ⟨mb, ea, rfl, rfl, HB.out, by omega, by omega, by omega, by omega, by omega, hid_of (by have : (2 : Int) ^ 64 = 18446744073709551616 := (by decide); omega), HC⟩
    case round =>
      obtain ⟨x, y, rfl, rfl, hb, hx0, hx1, hf, hy0, hy1, hpw, hq⟩ := hrel
      have hbb := hid_of hb
      have k0 := (hI _ hb).1
      have k2 := (hI _ hb).2.2
      clear hb HC HB j0 j1 j2
      by_cases hgo : x ≥ 36028797018963968
      · have hgk : 2 ≤ gk := by
          rcases Nat.lt_or_ge gk 2 with h | h
          · exfalso
            have := hpw.out
            have h2 : gk = 0 ∨ gk = 1 := by omega
            rcases h2 with rfl | rfl
            · simp at this; omega
            · simp at this; omega
          · exact h
        obtain ⟨f, rfl⟩ : ∃ f, gk = f + 1 := ⟨gk - 1, by omega⟩
        have hst : Hid (h2 (f + 1) x y = h2 f (hs x) (y + 1)) := by show _ = _; rw [h2, if_pos hgo]
        obtain ⟨s0, s1, s2⟩ := hs_lt hx0 hx1 hpw.out (by omega)
        obtain ⟨H, hH⟩ : ∃ H, bits .or .u64 (x / 2) (bits .and .u64 x 1) = H := ⟨_, rfl⟩
        have eH : hs x = H := hH
        rw [eH] at hst s0 s1 s2
        have S2 := hid_of s2
        clear s2 eH
        have hq0 : (x / 36028797018963968 != 0) = true := by rw [bne_iff_ne]; omega
        go_wp2_with fail
        go_roundg f
        case measure => omega
        case rel =>
          refine ⟨H, y + 1, rfl, rfl, hbb.out, by omega, by omega, by omega, by omega, by omega, S2, ?_⟩
          show _ = _
          rw [← hst.out]; exact hq.out
      · have he : (x, y) = (mc, ec) := by
          rw [← hq.out]
          cases gk with
          | zero => rfl
          | succ f => rw [h2, if_neg hgo]
        simp only [Prod.mk.injEq] at he
        obtain ⟨rfl, rfl⟩ := he
        have hq0 : (x / 36028797018963968 != 0) = false := by
          have : x / 36028797018963968 = 0 := by omega
          rw [this]; rfl
        go_wp2_with fail
        go_meet
        exact ⟨rfl, rfl, hbb.out, by omega, by omega, by omega, by omega⟩
  case rest =>
  obtain ⟨rfl, rfl, hb, mc0, mc1, ec0, ec1⟩ := hcut
  clear HB HC
  have HB := hid_of hb
  clear hb j0 j1 j2
  have j0 := (hI _ HB.out).1
  have j1 := (hI _ HB.out).2.1
  have j2 := (hI _ HB.out).2.2
  go_upto_block 4 with fail
  go_cut [2, 3] from 77 to 91 (fun v2 v3 wr => v2 = .int .u64 md ∧ v3 = .int .i64 ed ∧ Below w.heap.size w wr ∧ 0 ≤ md ∧ md ≤ 18446744073709551615 ∧ ec ≤ ed ∧ ed ≤ ec + 64)
  case first =>
    clear HR
    go_wp2_with fail
    go_loopg [2, 3] 64 (fun f v2 v3 wr => ∃ (x y : Int), v2 = .int .u64 x ∧ v3 = .int .i64 y ∧ Below w.heap.size w wr ∧ 0 ≤ x ∧ x ≤ 18446744073709551615 ∧ f ≤ 64 ∧ ec ≤ y ∧ y ≤ ec + (64 - (f : Int)) ∧ Hid (x < (2 : Int) ^ f) ∧ Hid (h3 f x y = (md, ed)))
    case atStart => exact ⟨mc, ec, rfl, rfl, HB.out, by omega, by omega, by omega, by omega, by omega, hid_of (by have : (2 : Int) ^ 64 = 18446744073709551616 := (by decide); omega), HD⟩
    case round =>
      obtain ⟨x, y, rfl, rfl, hb, hx0, hx1, hf, hy0, hy1, hpw, hq⟩ := hrel
      have hbb := hid_of hb
      have k0 := (hI _ hb).1
      have k2 := (hI _ hb).2.2
      clear hb HD HB j0 j1 j2
      by_cases hgo : x > 1 ∧ y < -1024
      · have hgk : 2 ≤ gk := by
          rcases Nat.lt_or_ge gk 2 with h | h
          · exfalso
            have := hpw.out
            have h2 : gk = 0 ∨ gk = 1 := by omega
            rcases h2 with rfl | rfl
            · simp at this; omega
            · simp at this; omega
          · exact h
        obtain ⟨f, rfl⟩ : ∃ f, gk = f + 1 := ⟨gk - 1, by omega⟩
        have hst : Hid (h3 (f + 1) x y = h3 f (hs x) (y + 1)) := by show _ = _; rw [h3, if_pos hgo]
        obtain ⟨s0, s1, s2⟩ := hs_lt hx0 hx1 hpw.out (by omega)
        obtain ⟨H, hH⟩ : ∃ H, bits .or .u64 (x / 2) (bits .and .u64 x 1) = H := ⟨_, rfl⟩
        have eH : hs x = H := hH
        rw [eH] at hst s0 s1 s2
        have S2 := hid_of s2
        clear s2 eH
        obtain ⟨hg1, hg2⟩ := hgo
        go_wp2_with fail
        go_roundg f
        case measure => omega
        case rel =>
          refine ⟨H, y + 1, rfl, rfl, hbb.out, by omega, by omega, by omega, by omega, by omega, S2, ?_⟩
          show _ = _
          rw [← hst.out]; exact hq.out
      · have he : (x, y) = (md, ed) := by
          rw [← hq.out]
          cases gk with
          | zero => rfl
          | succ f => rw [h3, if_neg hgo]
        simp only [Prod.mk.injEq] at he
        obtain ⟨rfl, rfl⟩ := he
        by_cases hg1 : x > 1
        · have hg2 : ¬ (y < -1024) := fun h => hgo ⟨hg1, h⟩
          go_wp2_with fail
          go_meet
          exact ⟨rfl, rfl, hbb.out, by omega, by omega, by omega, by omega⟩
        · go_wp2_with fail
          go_meet
          exact ⟨rfl, rfl, hbb.out, by omega, by omega, by omega, by omega⟩
  case rest =>
  obtain ⟨rfl, rfl, hb, md0, md1, ed0, ed1⟩ := hcut
  clear HB HD
  have HB := hid_of hb
  clear hb j0 j1 j2
  have j0 := (hI _ HB.out).1
  have j1 := (hI _ HB.out).2.1
  have j2 := (hI _ HB.out).2.2
  obtain ⟨m1, hm1'⟩ : ∃ m1 : Int, md / 4 = m1 := ⟨_, rfl⟩
  have hm1a : 0 ≤ m1 ∧ m1 ≤ 4611686018427387903 := by omega
  obtain ⟨hm1b, hm1c⟩ := hm1a
  obtain ⟨b3, hb3⟩ : ∃ b3, (bits .or .u64 (bits .and .u64 md 3) (bits .and .u64 m1 1) == 3) = b3 := ⟨_, rfl⟩
  obtain ⟨m2, hm2⟩ : ∃ m2 : Int, m2 = if b3 then (if (m1 + 1 == 9007199254740992) = true then 4503599627370496 else m1 + 1) else m1 := ⟨_, rfl⟩
  obtain ⟨e2, he2⟩ : ∃ e2 : Int, e2 = if b3 then (if (m1 + 1 == 9007199254740992) = true then ed + 2 + 1 else ed + 2) else ed + 2 := ⟨_, rfl⟩
  obtain ⟨e3, he3⟩ : ∃ e3 : Int, e3 = if (m2 / 4503599627370496 == 0) = true then -1023 else e2 := ⟨_, rfl⟩
  have H1 : Hid ((if e3 > 1023 then (finB 4503599627370496 1024 neg, true) else (finB m2 e3 neg, false)) = r) := by
    show _ = _
    rw [← HR.out]
    unfold hxR
    simp only [hm1', hb3]
    have p : (if b3 then (if (m1 + 1 == 9007199254740992) = true then ((4503599627370496 : Int), ed + 2 + 1) else (m1 + 1, ed + 2)) else (m1, ed + 2)) = (m2, e2) := by
      rw [hm2, he2]
      split
      · split <;> rfl
      · rfl
    rw [p, he3]
  have hm2a : 0 ≤ m2 ∧ m2 ≤ 4611686018427387904 := by rw [hm2]; split; split <;> omega; omega
  obtain ⟨hm2b, hm2c⟩ := hm2a
  have he2a : -2000000000000 ≤ e2 ∧ e2 ≤ 2000000000000 := by rw [he2]; split; split <;> omega; omega
  obtain ⟨he2b, he2c⟩ := he2a
  have he3a : -2000000000000 ≤ e3 ∧ e3 ≤ 2000000000000 := by rw [he3]; split <;> omega
  obtain ⟨he3b, he3c⟩ := he3a
  have HM2 := hid_of hm2
  have HE2 := hid_of he2
  have HE3 := hid_of he3
  clear HR hm2 he2 he3
  go_upto_if 103 with fail
  go_cut [2, 3] from 102 to 117 (fun v2 v3 wr => v2 = .int .u64 m2 ∧ v3 = .int .i64 e2 ∧ Below w.heap.size w wr)
  case first =>
    have x1 := HM2.out
    have x2 := HE2.out
    clear HM2 HE2 HE3 H1
    cases b3 with
    | true =>
      simp only [if_true] at x1 x2
      cases hq : (m1 + 1 == 9007199254740992) with
      | true =>
        rw [hq] at x1 x2
        simp only [if_true] at x1 x2
        have hq2 : m1 + 1 = 9007199254740992 := by simpa using hq
        have hq3 : m1 = 9007199254740991 := by omega
        subst x1 x2
        go_wp2_with fail
        go_meet
        exact ⟨by first | rfl | (congr 1; omega), rfl, HB.out⟩
      | false =>
        rw [hq] at x1 x2
        simp only [if_false, Bool.false_eq_true] at x1 x2
        subst x1 x2
        go_wp2_with fail
        go_meet
        exact ⟨rfl, rfl, HB.out⟩
    | false =>
      simp only [if_false, Bool.false_eq_true] at x1 x2
      subst x1 x2
      go_wp2_with fail
      go_meet
      exact ⟨rfl, rfl, HB.out⟩
  case rest =>
  obtain ⟨rfl, rfl, hb⟩ := hcut
  clear HB HM2 HE2
  have HB := hid_of hb
  clear hb j0 j1 j2
  have j0 := (hI _ HB.out).1
  have j1 := (hI _ HB.out).2.1
  have j2 := (hI _ HB.out).2.2
  go_upto_if 124 with fail
  go_cut [3] from 118 to 128 (fun v3 wr => v3 = .int .i64 e3 ∧ Below w.heap.size w wr)
  case first =>
    have x1 := HE3.out
    clear HE3 H1
    cases hq : (m2 / 4503599627370496 == 0) with
    | true =>
      rw [hq] at x1
      simp only [if_true] at x1
      subst x1
      go_wp2_with fail
      go_meet
      exact ⟨rfl, HB.out⟩
    | false =>
      rw [hq] at x1
      simp only [if_false, Bool.false_eq_true] at x1
      subst x1
      go_wp2_with fail
      go_meet
      exact ⟨rfl, HB.out⟩
  case rest =>
  obtain ⟨rfl, hb⟩ := hcut
  clear HB HE3
  have HB := hid_of hb
  clear hb j0 j1 j2
  have j0 := (hI _ HB.out).1
  have j1 := (hI _ HB.out).2.1
  have j2 := (hI _ HB.out).2.2
  have heq : ∀ n, (binOp .eql 99 (.pointer (some ⟨10, 0, none⟩)) (.pointer (some ⟨8, 0, none⟩))).run Tryz.prog (wc.drewN n) = .ok (.bool false) (wc.drewN n) := fun n => Two.eql (H2W.out.below (below_drewN HB.out n) hlt10)
  by_cases hov : e3 > 1023
  · rw [if_pos hov] at H1
    cases neg with
    | true =>
      go_wp2_with fail
      go_quiet (fail)
      go_wp2_with fail
      go_quiet (fail)
      go_wp2_with fail
      go_ret2
      rw [← H1.out]
      exact ⟨rfl, by repeat (first | exact HB.out | refine below_drewN ?_ _)⟩
    | false =>
      go_wp2_with fail
      go_quiet (fail)
      go_wp2_with fail
      go_ret2
      rw [← H1.out]
      exact ⟨rfl, by repeat (first | exact HB.out | refine below_drewN ?_ _)⟩
  · rw [if_neg hov] at H1
    cases neg with
    | true =>
      go_wp2_with fail
      go_quiet (fail)
      go_wp2_with fail
      go_quiet (fail)
      go_wp2_with fail
      go_ret2
      rw [← H1.out]
      exact ⟨rfl, by repeat (first | exact HB.out | refine below_drewN ?_ _)⟩
    | false =>
      go_wp2_with fail
      go_quiet (fail)
      go_wp2_with fail
      go_ret2
      rw [← H1.out]
      exact ⟨rfl, by repeat (first | exact HB.out | refine below_drewN ?_ _)⟩
end Go.Proofs.Qxb6606206aGreatDoor
