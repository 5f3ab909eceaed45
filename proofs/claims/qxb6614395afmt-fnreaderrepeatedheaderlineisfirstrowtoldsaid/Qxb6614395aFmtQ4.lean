import Derived.Test.Qxb6614395aFmtQ3
import Derived.Test.Qxb6614395aFmtSh2
import Derived.Test.Qxb6614395aFmtW30
set_option linter.unusedSimpArgs false
set_option linter.unusedVariables false
namespace Go.Proofs.Qxb6614395aFmt
open Go Go.RowKit Go.Deep Go.Extern.Stop Go.Stop Go.Extern
attribute [local go_sem] str_size str_get str_extract str_toList str_append

theorem decodeN_high (n b0 b1 b2 b3 : Nat) (h : 128 ≤ b0) : 128 ≤ (Lib.decodeN n b0 b1 b2 b3).1 := by
  unfold Lib.decodeN
  rw [if_neg (by omega)]
  repeat' split
  all_goals (simp only []; omega)
theorem decodeN_low (n b0 b1 b2 b3 : Nat) (h : b0 < 128) : (Lib.decodeN n b0 b1 b2 b3).1 = b0 := by
  unfold Lib.decodeN
  rw [if_pos h]
theorem str_get0 (a : UInt8) (t : List UInt8) : (str (a :: t)).get! 0 = a := by
  simp [str, ByteArray.get!]
theorem str_getj (l : List UInt8) (j : Nat) (h : j < l.length) : (str l).get! j = l[j] := by
  simp [str, ByteArray.get!, h]
/-- The first rune of a text, told by its first byte. -/
theorem decode_head (l : List UInt8) (c : UInt8) (hc : c.toNat < 128) : (((Lib.decodeGo (str l)).1 : Int) = (c.toNat : Int)) ↔ l.head? = some c := by
  unfold Lib.decodeGo
  cases l with
  | nil =>
    rw [if_pos (by rw [str_size]; rfl)]
    simp only [List.head?_nil]
    constructor
    · intro h; omega
    · intro h; cases h
  | cons a t =>
    rw [if_neg (by rw [str_size]; simp), Lib.decode_at, str_get0]
    simp only [List.head?_cons, Option.some.injEq]
    by_cases ha : a.toNat < 128
    · rw [decodeN_low _ _ _ _ _ ha]
      constructor
      · intro h; exact UInt8.toNat_inj.1 (by omega)
      · rintro rfl; rfl
    · have := decodeN_high ((str (a :: t)).size - 0) a.toNat ((str (a :: t)).get! (0 + 1)).toNat ((str (a :: t)).get! (0 + 2)).toNat ((str (a :: t)).get! (0 + 3)).toNat (by omega)
      constructor
      · intro h; omega
      · rintro rfl; omega

theorem decode_calls (w : World) (b o n cap : Nat) (l : List UInt8) (hn : l.length = n) (hseg : Seg w b o l) (hT : Lib.Utf8Tabs 11 12 w) :
    Calls Tryf.prog 72 #[.slice (some ⟨b, o, none⟩) n cap] w fun e w' => (∃ k : Int, e = .returned (.tuple #[.int .i32 ((Lib.decodeGo (str l)).1 : Int), .int .i64 k])) ∧ Below w.heap.size w w' := by
  have h := Any7.utf8_DecodeRune Tryf.lays732 (str l) b o cap w hT (fun j hj => by
    rw [str_size] at hj
    rw [str_getj l j hj]
    exact hseg j hj)
  rw [str_size, hn] at h
  refine h.mono ?_
  rintro e w' ⟨rfl, hb⟩
  exact ⟨⟨_, rfl⟩, hb⟩
set_option maxHeartbeats 800000 in
theorem nr_calls (w : World) (b o n cap : Nat) (l : List UInt8) (hn : l.length = n) (hseg : Seg w b o l) (hT : Lib.Utf8Tabs 11 12 w) :
    Calls Tryf.prog 52 #[.slice (some ⟨b, o, none⟩) n cap] w fun e w' => (∃ x : Int, e = .returned (.int .i32 x) ∧ (x = 34 ↔ l.head? = some 34) ∧ (x = 44 ↔ l.head? = some 44)) ∧ Only (fun _ => False) w w' := by
  have cD := decode_calls w b o n cap l hn hseg hT
  have h1 := decode_head l 34 (by decide)
  have h2 := decode_head l 44 (by decide)
  obtain ⟨x, hx⟩ : ∃ x : Int, ((Lib.decodeGo (str l)).1 : Int) = x := ⟨_, rfl⟩
  rw [hx] at cD h1 h2
  have H1 := hid_of h1
  have H2 := hid_of h2
  clear hseg hT hx h1 h2
  go_enter Tryf.func52, Tryf.ntmps52
  go_wp2_with (go_at_call 72; go_fit cD; rintro e w1 ⟨⟨k, rfl⟩, hb⟩)
  go_ret
  exact ⟨⟨x, rfl, H1.out, H2.out⟩, only_of_below hb⟩
end Go.Proofs.Qxb6614395aFmt
