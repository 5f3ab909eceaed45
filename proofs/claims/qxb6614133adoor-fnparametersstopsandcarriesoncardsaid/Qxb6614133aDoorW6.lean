import Derived.Test.Qxb6614133aDoorW5
set_option linter.unusedSimpArgs false
set_option linter.unusedVariables false
namespace Go.Proofs.Qxb6614133aDoor
open Go Go.RowKit
attribute [local go_sem] str_size str_get str_extract str_toList str_append

theorem t_no (c d : UInt8) (k : Int) (hk : (d.toNat : Int) = k) (h : ¬ c = d) : ((c.toNat : Int) == k) = false := by rw [beq_u8 c d k hk]; simp [h]
theorem t_yes (c d : UInt8) (k : Int) (hk : (d.toNat : Int) = k) (h : c = d) : ((c.toNat : Int) == k) = true := by rw [beq_u8 c d k hk]; simp [h]

set_option maxRecDepth 20000 in
set_option maxHeartbeats 800000 in
theorem bare_quoted (b : Nat) (c : UInt8) (t : List UInt8) (w : World) (hl : (c :: t).length ≤ 1048576) (h : Ps b (c :: t) w) (h45 : ¬ c = 45) (hd : Sf.digit c = false) (h34 : c = 34) :
    Calls Tryd.prog 10 #[.pointer (some ⟨b, 0, none⟩)] w (ItemPost b (Sf.bare (c :: t)) w) := by
  have hc := h.cell
  have hf := h.free
  have hlt := h.lt
  have hne : ¬ w.heap.size = b := Nat.ne_of_gt hlt
  have e : Hid (Sf.bare (c :: t) = Sf.quoted (c :: t)) := show _ = _ by rw [Sf.bare, if_neg (by simp [h45, hd]), if_pos h34]
  have cd := fun w => digit_calls c w
  have cn := fun w' h' => quoted_calls b (c :: t) w' hl h'
  obtain ⟨r, hr⟩ : ∃ r, Sf.quoted (c :: t) = r := ⟨_, rfl⟩
  rw [hr] at cn
  rw [hd] at cd
  have HR : Hid (Sf.bare (c :: t) = r) := e.out.trans hr
  have t1 := t_no c 45 45 rfl h45
  have t2 := t_yes c 34 34 rfl h34
  clear e hr h45 hd h34
  go_enter Tryd.func10, Tryd.ntmps10
  go_wp2_with (first
    | (go_at_call 18; go_fit (cd _); rintro e w' ⟨rfl, rfl⟩)
    | (go_at_call 21; go_fit (cn _ (h.alloc _)); rintro e w1 ⟨s0, s1, rfl, p1, q1⟩; obtain ⟨x0, x1, y0, y1, z1⟩ := own_later hlt q1))
  refine bodyPost_ret (by simp [results, Tryd.results10, go_sem, x0, x1]; try rfl) rfl ?_
  rw [HR.out]
  exact ⟨_, _, rfl, (p1.put hlt _).put hlt _, ((((Kp.refl b w).alloc _).trans q1).put (Nat.le_refl _) _).put (Nat.le_refl _) _⟩

set_option maxRecDepth 20000 in
set_option maxHeartbeats 800000 in
theorem bare_token (b : Nat) (c : UInt8) (t : List UInt8) (w : World) (hl : (c :: t).length ≤ 1048576) (h : Ps b (c :: t) w) (h45 : ¬ c = 45) (hd : Sf.digit c = false) (h34 : ¬ c = 34) (ha : (Sf.alpha c || c == 42) = true) :
    Calls Tryd.prog 10 #[.pointer (some ⟨b, 0, none⟩)] w (ItemPost b (Sf.bare (c :: t)) w) := by
  have hc := h.cell
  have hf := h.free
  have hlt := h.lt
  have hne : ¬ w.heap.size = b := Nat.ne_of_gt hlt
  have HR : Hid (Sf.bare (c :: t) = (true, (c :: t).dropWhile Sf.tokC)) := show _ = _ by rw [Sf.bare, if_neg (by simp [h45, hd]), if_neg h34, if_pos ha]
  have cd := fun w => digit_calls c w
  have ca := fun w => alpha_calls c w
  have cn := fun w' h' => span_calls 23 Sf.tokC (by exact fun _ _ => rfl) tokC_calls b (c :: t) w' hl h'
  obtain ⟨r, hr⟩ : ∃ r, (c :: t).dropWhile Sf.tokC = r := ⟨_, rfl⟩
  obtain ⟨s, hs⟩ : ∃ s, (c :: t).takeWhile Sf.tokC = s := ⟨_, rfl⟩
  rw [hr] at HR
  rw [hr, hs] at cn
  rw [hd] at cd
  have t1 := t_no c 45 45 rfl h45
  have t2 := t_no c 34 34 rfl h34
  clear hr hs h45 hd h34
  cases hal : Sf.alpha c with
  | true =>
    rw [hal] at ca
    clear ha hal
    go_enter Tryd.func10, Tryd.ntmps10
    go_wp2_with (first
      | (go_at_call 18; go_fit (cd _); rintro e w' ⟨rfl, rfl⟩)
      | (go_at_call 22; go_fit (ca _); rintro e w' ⟨rfl, rfl⟩)
      | (go_at_call 16; go_fit (cn _ (h.alloc _)); rintro e w1 ⟨rfl, p1, q1⟩; obtain ⟨x0, x1, y0, y1, z1⟩ := own_later hlt q1))
    refine bodyPost_ret (by simp [results, Tryd.results10, go_sem, x0, x1]; try rfl) rfl ?_
    rw [HR.out]
    exact ⟨_, _, rfl, (p1.put hlt _).put hlt _, ((((Kp.refl b w).alloc _).trans q1).put (Nat.le_refl _) _).put (Nat.le_refl _) _⟩
  | false =>
    rw [hal] at ca
    have t3 := t_yes c 42 42 rfl (by simpa [hal] using ha)
    clear ha hal
    go_enter Tryd.func10, Tryd.ntmps10
    go_wp2_with (first
      | (go_at_call 18; go_fit (cd _); rintro e w' ⟨rfl, rfl⟩)
      | (go_at_call 22; go_fit (ca _); rintro e w' ⟨rfl, rfl⟩)
      | (go_at_call 16; go_fit (cn _ (h.alloc _)); rintro e w1 ⟨rfl, p1, q1⟩; obtain ⟨x0, x1, y0, y1, z1⟩ := own_later hlt q1))
    refine bodyPost_ret (by simp [results, Tryd.results10, go_sem, x0, x1]; try rfl) rfl ?_
    rw [HR.out]
    exact ⟨_, _, rfl, (p1.put hlt _).put hlt _, ((((Kp.refl b w).alloc _).trans q1).put (Nat.le_refl _) _).put (Nat.le_refl _) _⟩

set_option maxRecDepth 20000 in
set_option maxHeartbeats 800000 in
theorem bare_bytes (b : Nat) (c : UInt8) (t : List UInt8) (w : World) (hl : (c :: t).length ≤ 1048576) (h : Ps b (c :: t) w) (h45 : ¬ c = 45) (hd : Sf.digit c = false) (h34 : ¬ c = 34) (hal : Sf.alpha c = false) (h42 : ¬ c = 42) (h58 : c = 58) :
    Calls Tryd.prog 10 #[.pointer (some ⟨b, 0, none⟩)] w (ItemPost b (Sf.bare (c :: t)) w) := by
  have hc := h.cell
  have hf := h.free
  have hlt := h.lt
  have hne : ¬ w.heap.size = b := Nat.ne_of_gt hlt
  have HR : Hid (Sf.bare (c :: t) = Sf.consume 58 (t.dropWhile Sf.b64C)) := show _ = _ by rw [Sf.bare, if_neg (by simp [h45, hd]), if_neg h34, if_neg (by simp [hal, h42]), if_pos h58]
  have cd := fun w => digit_calls c w
  have ca := fun w => alpha_calls c w
  have cn := fun w' h' => span_calls 25 Sf.b64C (by exact fun _ _ => rfl) b64C_calls b t w' (by simp at hl; omega) h'
  obtain ⟨l1, hl1⟩ : ∃ l1, t.dropWhile Sf.b64C = l1 := ⟨_, rfl⟩
  obtain ⟨s, hs⟩ : ∃ s, t.takeWhile Sf.b64C = s := ⟨_, rfl⟩
  rw [hl1] at HR
  rw [hl1, hs] at cn
  have c2 := fun w' h' => consume_at b l1 58 58 rfl w' h'
  obtain ⟨r, hr⟩ : ∃ r, Sf.consume 58 l1 = r := ⟨_, rfl⟩
  rw [hr] at c2 HR
  rw [hd] at cd
  rw [hal] at ca
  have t1 := t_no c 45 45 rfl h45
  have t2 := t_no c 34 34 rfl h34
  have t3 := t_no c 42 42 rfl h42
  have t4 := t_yes c 58 58 rfl h58
  clear hl1 hr hs h45 hd h34 hal h42 h58
  go_enter Tryd.func10, Tryd.ntmps10
  go_wp2_with (first
    | (go_at_call 18; go_fit (cd _); rintro e w' ⟨rfl, rfl⟩)
    | (go_at_call 22; go_fit (ca _); rintro e w' ⟨rfl, rfl⟩)
    | (go_at_call 16; go_fit (cn _ ((h.set _).alloc _)); rintro e w1 ⟨rfl, p1, q1⟩)
    | (go_at_call 7; go_fit (c2 _ p1); rintro e w2 ⟨rfl, p2, q2⟩; obtain ⟨x0, x1, y0, y1, z1⟩ := own_later (w := w.setCell ⟨b, 0, none⟩ (.string (str t))) (by simpa using hlt) (q1.trans q2); simp only [World.size_setCell] at x0 x1 y0 y1 z1))
  refine bodyPost_ret (by simp [results, Tryd.results10, go_sem, x0, x1]; try rfl) rfl ?_
  rw [HR.out]
  exact ⟨_, _, rfl, (p2.put hlt _).put hlt _, (((((Kp.refl b w).set _ _).alloc _).trans (q1.trans q2)).put (Nat.le_refl _) _).put (Nat.le_refl _) _⟩

set_option maxRecDepth 20000 in
set_option maxHeartbeats 800000 in
theorem bare_bool (b : Nat) (c : UInt8) (t : List UInt8) (w : World) (h : Ps b (c :: t) w) (h45 : ¬ c = 45) (hd : Sf.digit c = false) (h34 : ¬ c = 34) (hal : Sf.alpha c = false) (h42 : ¬ c = 42) (h58 : ¬ c = 58) (h63 : c = 63) :
    Calls Tryd.prog 10 #[.pointer (some ⟨b, 0, none⟩)] w (ItemPost b (Sf.bare (c :: t)) w) := by
  have hc := h.cell
  have hf := h.free
  have hlt := h.lt
  have hne : ¬ w.heap.size = b := Nat.ne_of_gt hlt
  have HR : Hid (Sf.bare (c :: t) = Sf.bool01 (c :: t)) := show _ = _ by rw [Sf.bare, if_neg (by simp [h45, hd]), if_neg h34, if_neg (by simp [hal, h42]), if_neg h58, if_pos h63]
  have cd := fun w => digit_calls c w
  have ca := fun w => alpha_calls c w
  rw [hd] at cd
  rw [hal] at ca
  have t1 := t_no c 45 45 rfl h45
  have t2 := t_no c 34 34 rfl h34
  have t3 := t_no c 42 42 rfl h42
  have t4 := t_no c 58 58 rfl h58
  have t5 := t_yes c 63 63 rfl h63
  clear h45 hd h34 hal h42 h58 h63
  cases t with
  | nil =>
    go_enter Tryd.func10, Tryd.ntmps10
    go_wp2_with (first
      | (go_at_call 18; go_fit (cd _); rintro e w' ⟨rfl, rfl⟩)
      | (go_at_call 22; go_fit (ca _); rintro e w' ⟨rfl, rfl⟩))
    refine bodyPost_ret (by simp [results, Tryd.results10, go_sem]; try rfl) rfl ?_
    rw [HR.out]
    exact ⟨_, _, rfl, h.alloc _, (Kp.refl b _).alloc _⟩
  | cons d u =>
    by_cases hd : d = 48 ∨ d = 49
    · have e2 : Hid (Sf.bool01 (c :: d :: u) = (true, u)) := show _ = _ by simp [Sf.bool01, hd]
      rcases hd with hd | hd
      · have t6 : ((d.toNat : Int) != 48) = false := by rw [bne, t_yes d 48 48 rfl hd]; rfl
        clear hd
        go_enter Tryd.func10, Tryd.ntmps10
        go_wp2_with (first
          | (go_at_call 18; go_fit (cd _); rintro e w' ⟨rfl, rfl⟩)
          | (go_at_call 22; go_fit (ca _); rintro e w' ⟨rfl, rfl⟩))
        refine bodyPost_ret (by simp [results, Tryd.results10, go_sem]; try rfl) rfl ?_
        rw [HR.out, e2.out]
        exact ⟨_, _, rfl, ((h.set _).alloc _).alloc _, (((Kp.refl b _).set _ _).alloc _).alloc _⟩
      · have t6 : ((d.toNat : Int) != 48) = true := by rw [bne, t_no d 48 48 rfl (by rw [hd]; decide)]; rfl
        have t7 : ((d.toNat : Int) != 49) = false := by rw [bne, t_yes d 49 49 rfl hd]; rfl
        clear hd
        go_enter Tryd.func10, Tryd.ntmps10
        go_wp2_with (first
          | (go_at_call 18; go_fit (cd _); rintro e w' ⟨rfl, rfl⟩)
          | (go_at_call 22; go_fit (ca _); rintro e w' ⟨rfl, rfl⟩))
        refine bodyPost_ret (by simp [results, Tryd.results10, go_sem]; try rfl) rfl ?_
        rw [HR.out, e2.out]
        exact ⟨_, _, rfl, ((h.set _).alloc _).alloc _, (((Kp.refl b _).set _ _).alloc _).alloc _⟩
    · have e2 : Hid (Sf.bool01 (c :: d :: u) = (false, c :: d :: u)) := show _ = _ by simp [Sf.bool01, hd]
      have t6 : ((d.toNat : Int) != 48) = true := by rw [bne, t_no d 48 48 rfl (fun e => hd (.inl e))]; rfl
      have t7 : ((d.toNat : Int) != 49) = true := by rw [bne, t_no d 49 49 rfl (fun e => hd (.inr e))]; rfl
      clear hd
      go_enter Tryd.func10, Tryd.ntmps10
      go_wp2_with (first
        | (go_at_call 18; go_fit (cd _); rintro e w' ⟨rfl, rfl⟩)
        | (go_at_call 22; go_fit (ca _); rintro e w' ⟨rfl, rfl⟩))
      refine bodyPost_ret (by simp [results, Tryd.results10, go_sem]; try rfl) rfl ?_
      rw [HR.out, e2.out]
      exact ⟨_, _, rfl, h.alloc _, (Kp.refl b _).alloc _⟩

set_option maxRecDepth 20000 in
set_option maxHeartbeats 800000 in
theorem bare_other (b : Nat) (c : UInt8) (t : List UInt8) (w : World) (h : Ps b (c :: t) w) (h45 : ¬ c = 45) (hd : Sf.digit c = false) (h34 : ¬ c = 34) (hal : Sf.alpha c = false) (h42 : ¬ c = 42) (h58 : ¬ c = 58) (h63 : ¬ c = 63) :
    Calls Tryd.prog 10 #[.pointer (some ⟨b, 0, none⟩)] w (ItemPost b (Sf.bare (c :: t)) w) := by
  have hc := h.cell
  have hf := h.free
  have hlt := h.lt
  have hne : ¬ w.heap.size = b := Nat.ne_of_gt hlt
  have HR : Hid (Sf.bare (c :: t) = (false, c :: t)) := show _ = _ by rw [Sf.bare, if_neg (by simp [h45, hd]), if_neg h34, if_neg (by simp [hal, h42]), if_neg h58, if_neg h63]
  have cd := fun w => digit_calls c w
  have ca := fun w => alpha_calls c w
  rw [hd] at cd
  rw [hal] at ca
  have t1 := t_no c 45 45 rfl h45
  have t2 := t_no c 34 34 rfl h34
  have t3 := t_no c 42 42 rfl h42
  have t4 := t_no c 58 58 rfl h58
  have t5 := t_no c 63 63 rfl h63
  clear h45 hd h34 hal h42 h58 h63
  go_enter Tryd.func10, Tryd.ntmps10
  go_wp2_with (first
    | (go_at_call 18; go_fit (cd _); rintro e w' ⟨rfl, rfl⟩)
    | (go_at_call 22; go_fit (ca _); rintro e w' ⟨rfl, rfl⟩))
  refine bodyPost_ret (by simp [results, Tryd.results10, go_sem]; try rfl) rfl ?_
  rw [HR.out]
  exact ⟨_, _, rfl, h.alloc _, (Kp.refl b _).alloc _⟩

theorem bare_calls (b : Nat) (l : List UInt8) (w : World) (hl : l.length ≤ 1048576) (h : Ps b l w) :
    Calls Tryd.prog 10 #[.pointer (some ⟨b, 0, none⟩)] w (ItemPost b (Sf.bare l) w) := by
  cases l with
  | nil => exact bare_nil b w h
  | cons c t =>
    by_cases h1 : (c == 45 || Sf.digit c) = true
    · exact bare_number b c t w hl h h1
    · obtain ⟨h45, hd⟩ : ¬ c = 45 ∧ Sf.digit c = false := by simpa using h1
      by_cases h34 : c = 34
      · exact bare_quoted b c t w hl h h45 hd h34
      · by_cases ha : (Sf.alpha c || c == 42) = true
        · exact bare_token b c t w hl h h45 hd h34 ha
        · obtain ⟨hal, h42⟩ : Sf.alpha c = false ∧ ¬ c = 42 := by simpa using ha
          by_cases h58 : c = 58
          · exact bare_bytes b c t w hl h h45 hd h34 hal h42 h58
          · by_cases h63 : c = 63
            · exact bare_bool b c t w h h45 hd h34 hal h42 h58 h63
            · exact bare_other b c t w h h45 hd h34 hal h42 h58 h63

end Go.Proofs.Qxb6614133aDoor
