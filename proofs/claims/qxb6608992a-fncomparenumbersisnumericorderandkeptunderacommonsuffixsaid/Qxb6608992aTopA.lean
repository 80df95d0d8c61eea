import Derived.Test.Qxb6608992aNum
namespace Go.Proofs.Qxb6608992a
open Go.RowKit
set_option linter.unusedVariables false

set_option maxHeartbeats 1000000 in
theorem bytes7 (a b c : ByteArray) (w : World) (h : a.size + b.size + c.size ≤ 1048576) :
    Calls Try.prog 7 #[.string a, .string b, .string c] w fun e w' => e = .returned (.bool true) ∧ w' = w := by
  go_enter Try.func7, Try.ntmps7
  go_wp2
  go_ret
  exact ⟨rfl, rfl⟩
set_option maxHeartbeats 1000000 in
theorem bytes7_no (a b c : ByteArray) (w : World) (ha : a.size ≤ 9223372036854775807) (hb : b.size ≤ 9223372036854775807) (hc : c.size ≤ 9223372036854775807) (h : ¬ a.size + b.size + c.size ≤ 1048576) :
    Calls Try.prog 7 #[.string a, .string b, .string c] w fun e w' => e = .returned (.bool false) ∧ w' = w := by
  by_cases h0 : a.size ≤ 1048576
  · by_cases h1 : b.size ≤ 1048576
    · by_cases h1' : a.size + b.size ≤ 1048576
      · by_cases h2 : c.size ≤ 1048576
        all_goals (go_enter Try.func7, Try.ntmps7; go_wp2; go_ret; exact ⟨rfl, rfl⟩)
      · go_enter Try.func7, Try.ntmps7
        go_wp2
        go_ret
        exact ⟨rfl, rfl⟩
    · go_enter Try.func7, Try.ntmps7
      go_wp2
      go_ret
      exact ⟨rfl, rfl⟩
  · go_enter Try.func7, Try.ntmps7
    go_wp2
    go_ret
    exact ⟨rfl, rfl⟩

set_option maxHeartbeats 1000000 in
theorem top3_no (a b c : ByteArray) (w : World) (ha : a.size ≤ 9223372036854775807) (hb : b.size ≤ 9223372036854775807) (hc : c.size ≤ 9223372036854775807) (h : ¬ a.size + b.size + c.size ≤ 1048576) :
    Calls Try.prog 3 #[.string a, .string b, .string c] w fun e w' => e = .returned (.bool true) ∧ Below w.heap.size w w' := by
  have C7 := hid (bytes7_no a b c w ha hb hc h)
  go_enter Try.func3, Try.ntmps3
  go_wp2_with fail
  refine C7.out.mono ?_
  rintro e wa ⟨rfl, hwa⟩
  rw [hwa]; clear hwa wa
  go_wp2
  go_ret
  exact ⟨rfl, Below.refl _ _⟩

set_option maxHeartbeats 1000000 in
theorem top3_long (a b c : ByteArray) (w : World) (h : a.size + b.size + c.size ≤ 1048576) (h2 : ¬ (a.size ≤ 262144 ∧ b.size ≤ 262144 ∧ c.size ≤ 262144)) :
    Calls Try.prog 3 #[.string a, .string b, .string c] w fun e w' => e = .returned (.bool true) ∧ Below w.heap.size w w' := by
  have C7 := hid (bytes7 a b c w h)
  by_cases h3 : a.size ≤ 262144
  · by_cases h4 : b.size ≤ 262144
    · have h5 : ¬ c.size ≤ 262144 := fun h5 => h2 ⟨h3, h4, h5⟩
      clear h2
      go_enter Try.func3, Try.ntmps3
      go_wp2_with fail
      refine C7.out.mono ?_
      rintro e wa ⟨rfl, hwa⟩
      rw [hwa]; clear hwa wa
      go_wp2
      go_ret
      exact ⟨rfl, Below.refl _ _⟩
    · clear h2
      go_enter Try.func3, Try.ntmps3
      go_wp2_with fail
      refine C7.out.mono ?_
      rintro e wa ⟨rfl, hwa⟩
      rw [hwa]; clear hwa wa
      go_wp2
      go_ret
      exact ⟨rfl, Below.refl _ _⟩
  · clear h2
    go_enter Try.func3, Try.ntmps3
    go_wp2_with fail
    refine C7.out.mono ?_
    rintro e wa ⟨rfl, hwa⟩
    rw [hwa]; clear hwa wa
    go_wp2
    go_ret
    exact ⟨rfl, Below.refl _ _⟩

set_option maxHeartbeats 2000000 in
theorem top3_in (a b c : ByteArray) (w : World) (ha : a.size ≤ 262144) (hb : b.size ≤ 262144) (hc : c.size ≤ 262144) :
    Calls Try.prog 3 #[.string a, .string b, .string c] w fun e w' => e = .returned (.bool true) ∧ Below w.heap.size w w' := by
  have C7 := hid (bytes7 a b c w (by omega))
  have C8a := hid (isnum_any a w (by unfold maxLen; omega))
  have C8b := hid (isnum_any b w (by unfold maxLen; omega))
  have C9 := hid (digits_any c w (by unfold maxLen; omega))
  cases h1 : isN a.data.toList with
  | false =>
    rw [h1] at C8a
    clear h1
    go_enter Try.func3, Try.ntmps3
    go_wp2_with fail
    refine C7.out.mono ?_
    rintro e wa ⟨rfl, hwa⟩
    rw [hwa]; clear hwa wa
    go_wp2_with fail
    refine C8a.out.mono ?_
    rintro e wa ⟨rfl, hwa⟩
    rw [hwa]; clear hwa wa
    go_wp2
    go_ret
    exact ⟨rfl, Below.refl _ _⟩
  | true =>
    cases h2 : isN b.data.toList with
    | false =>
      rw [h1] at C8a
      rw [h2] at C8b
      clear h1 h2
      go_enter Try.func3, Try.ntmps3
      go_wp2_with fail
      refine C7.out.mono ?_
      rintro e wa ⟨rfl, hwa⟩
      rw [hwa]; clear hwa wa
      go_wp2_with fail
      refine C8a.out.mono ?_
      rintro e wa ⟨rfl, hwa⟩
      rw [hwa]; clear hwa wa
      go_wp2_with fail
      refine C8b.out.mono ?_
      rintro e wa ⟨rfl, hwa⟩
      rw [hwa]; clear hwa wa
      go_wp2
      go_ret
      exact ⟨rfl, Below.refl _ _⟩
    | true =>
      cases h3 : allD c.data.toList with
      | false =>
        rw [h1] at C8a
        rw [h2] at C8b
        rw [h3] at C9
        clear h1 h2 h3
        go_enter Try.func3, Try.ntmps3
        go_wp2_with fail
        refine C7.out.mono ?_
        rintro e wa ⟨rfl, hwa⟩
        rw [hwa]; clear hwa wa
        go_wp2_with fail
        refine C8a.out.mono ?_
        rintro e wa ⟨rfl, hwa⟩
        rw [hwa]; clear hwa wa
        go_wp2_with fail
        refine C8b.out.mono ?_
        rintro e wa ⟨rfl, hwa⟩
        rw [hwa]; clear hwa wa
        go_wp2_with fail
        refine C9.out.mono ?_
        rintro e wa ⟨rfl, hwa⟩
        rw [hwa]; clear hwa wa
        go_wp2
        go_ret
        exact ⟨rfl, Below.refl _ _⟩
      | true =>
        have C10 := hid (sign_any a b w (by omega) (by omega))
        rw [sgn_eq h1 h2] at C10
        have C11 := hid (cmp11 a b w)
        have C12 := fun w1 => hid (cmp11 (a ++ c) (b ++ c) w1)
        have e1 : (a ++ c).data.toList = a.data.toList ++ c.data.toList := by simp
        have e2 : (b ++ c).data.toList = b.data.toList ++ c.data.toList := by simp
        rw [e1, e2, cn_append] at C12
        rw [h1] at C8a
        rw [h2] at C8b
        rw [h3] at C9
        generalize cn a.data.toList b.data.toList = z at *
        clear h1 h2 h3 e1 e2
        go_enter Try.func3, Try.ntmps3
        go_wp2_with fail
        refine C7.out.mono ?_
        rintro e wa ⟨rfl, hwa⟩
        rw [hwa]; clear hwa wa
        go_wp2_with fail
        refine C8a.out.mono ?_
        rintro e wa ⟨rfl, hwa⟩
        rw [hwa]; clear hwa wa
        go_wp2_with fail
        refine C8b.out.mono ?_
        rintro e wa ⟨rfl, hwa⟩
        rw [hwa]; clear hwa wa
        go_wp2_with fail
        refine C9.out.mono ?_
        rintro e wa ⟨rfl, hwa⟩
        rw [hwa]; clear hwa wa
        go_wp2_with fail
        refine C10.out.mono ?_
        rintro e wa ⟨rfl, hwa⟩
        rw [hwa]; clear hwa wa
        go_wp2_with fail
        refine C11.out.mono ?_
        rintro e w1 ⟨rfl, hb1⟩
        have HB1 := hid hb1
        clear hb1
        go_wp2_with fail
        refine (C12 w1).out.mono ?_
        rintro e w2 ⟨rfl, hb2⟩
        have HB2 := hid hb2
        clear hb2
        go_wp2
        go_ret
        exact ⟨by simp, HB1.out.trans (HB2.out.mono HB1.out.size)⟩

theorem top3 (a b c : ByteArray) (w : World) (ha : a.size ≤ maxLen) (hb : b.size ≤ maxLen) (hc : c.size ≤ maxLen) :
    Calls Try.prog 3 #[.string a, .string b, .string c] w fun e w' => e = .returned (.bool true) ∧ Below w.heap.size w w' := by
  unfold maxLen at ha hb hc
  by_cases h : a.size + b.size + c.size ≤ 1048576
  · by_cases h2 : a.size ≤ 262144 ∧ b.size ≤ 262144 ∧ c.size ≤ 262144
    · exact top3_in a b c w h2.1 h2.2.1 h2.2.2
    · exact top3_long a b c w h h2
  · exact top3_no a b c w ha hb hc h

end Go.Proofs.Qxb6608992a
