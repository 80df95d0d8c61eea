import Derived.Test.Qxb6608992aInc
namespace Go.Proofs.Qxb6608992a
open Go.RowKit
set_option linter.unusedVariables false

set_option maxHeartbeats 1000000 in
theorem bytes12 (a : ByteArray) (w : World) (h : a.size ≤ 1048576) :
    Calls Try.prog 12 #[.string a] w fun e w' => e = .returned (.bool true) ∧ w' = w := by
  go_enter Try.func12, Try.ntmps12
  go_wp2
  go_ret
  exact ⟨rfl, rfl⟩
set_option maxHeartbeats 1000000 in
theorem bytes12_no (a : ByteArray) (w : World) (ha : a.size ≤ 9223372036854775807) (h : ¬ a.size ≤ 1048576) :
    Calls Try.prog 12 #[.string a] w fun e w' => e = .returned (.bool false) ∧ w' = w := by
  go_enter Try.func12, Try.ntmps12
  go_wp2
  go_ret
  exact ⟨rfl, rfl⟩

set_option maxHeartbeats 1000000 in
theorem top4_no (a : ByteArray) (w : World) (ha : a.size ≤ 9223372036854775807) (h : ¬ a.size ≤ 524288) :
    Calls Try.prog 4 #[.string a] w fun e w' => e = .returned (.bool true) ∧ Below w.heap.size w w' := by
  by_cases h2 : a.size ≤ 1048576
  · have C := hid (bytes12 a w h2)
    go_enter Try.func4, Try.ntmps4
    go_wp2_with fail
    refine C.out.mono ?_
    rintro e wa ⟨rfl, hwa⟩
    rw [hwa]; clear hwa wa
    go_wp2
    go_ret
    exact ⟨rfl, Below.refl _ _⟩
  · have C := hid (bytes12_no a w ha h2)
    go_enter Try.func4, Try.ntmps4
    go_wp2_with fail
    refine C.out.mono ?_
    rintro e wa ⟨rfl, hwa⟩
    rw [hwa]; clear hwa wa
    go_wp2
    go_ret
    exact ⟨rfl, Below.refl _ _⟩

set_option maxHeartbeats 2000000 in
theorem top4_in (a : ByteArray) (w : World) (h : a.size ≤ 524288) :
    Calls Try.prog 4 #[.string a] w fun e w' => e = .returned (.bool true) ∧ Below w.heap.size w w' := by
  have C12 := hid (bytes12 a w (by omega))
  have C8 := hid (isnum_any a w (by unfold maxLen; omega))
  cases h1 : isN a.data.toList with
  | false =>
    rw [h1] at C8
    clear h1
    go_enter Try.func4, Try.ntmps4
    go_wp2_with fail
    refine C12.out.mono ?_
    rintro e wa ⟨rfl, hwa⟩
    rw [hwa]; clear hwa wa
    go_wp2_with fail
    refine C8.out.mono ?_
    rintro e wa ⟨rfl, hwa⟩
    rw [hwa]; clear hwa wa
    go_wp2
    go_ret
    exact ⟨rfl, Below.refl _ _⟩
  | true =>
    have hd : allD a.data.toList = true := by
      unfold isN at h1
      simp only [Bool.and_eq_true] at h1
      exact h1.1.2
    have h0 : 0 < a.size := by
      have : a.data.toList.length = a.size := by simp
      rcases Nat.eq_zero_or_pos a.size with e | e
      · rw [e] at this
        rw [List.eq_nil_of_length_eq_zero this] at h1
        simp [isN] at h1
      · exact e
    rw [h1] at C8
    have C13 := hid (inc_any a w h h0 hd)
    obtain ⟨S, hS⟩ : ∃ S : ByteArray, S = ⟨(inc a.data.toList).toArray⟩ := ⟨_, rfl⟩
    have hSl : S.data.toList = inc a.data.toList := by rw [hS]
    rw [← hS] at C13
    have hlt := inc_below a.data.toList hd
    have D1 := fun w1 => hid (cmp11 a S w1)
    have D2 := fun w1 => hid (cmp11 S a w1)
    have D3 := fun w1 => hid (cmp11 a a w1)
    have D4 := fun w1 => hid (cmp11 S S w1)
    rw [hSl, hlt.1] at D1
    rw [hSl, hlt.2] at D2
    rw [cn_self] at D3
    rw [cn_self] at D4
    clear hS hSl hlt h1 hd h0
    go_enter Try.func4, Try.ntmps4
    go_wp2_with fail
    refine C12.out.mono ?_
    rintro e wa ⟨rfl, hwa⟩
    rw [hwa]; clear hwa wa
    go_wp2_with fail
    refine C8.out.mono ?_
    rintro e wa ⟨rfl, hwa⟩
    rw [hwa]; clear hwa wa
    go_wp2_with fail
    refine C13.out.mono ?_
    rintro e w1 ⟨rfl, hb1⟩
    have HB1 := hid hb1
    clear hb1
    go_wp2_with fail
    refine (D1 w1).out.mono ?_
    rintro e w2 ⟨rfl, hb2⟩
    have HB2 := hid (HB1.out.trans (hb2.mono HB1.out.size))
    clear hb2
    go_wp2_with fail
    refine (D2 w2).out.mono ?_
    rintro e w3 ⟨rfl, hb3⟩
    have HB3 := hid (HB2.out.trans (hb3.mono HB2.out.size))
    clear hb3
    go_wp2_with fail
    refine (D3 w3).out.mono ?_
    rintro e w4 ⟨rfl, hb4⟩
    have HB4 := hid (HB3.out.trans (hb4.mono HB3.out.size))
    clear hb4
    go_wp2_with fail
    refine (D4 w4).out.mono ?_
    rintro e w5 ⟨rfl, hb5⟩
    have HB5 := hid (HB4.out.trans (hb5.mono HB4.out.size))
    clear hb5
    go_wp2
    go_ret
    exact ⟨rfl, HB5.out⟩

theorem top4 (a : ByteArray) (w : World) (ha : a.size ≤ maxLen) :
    Calls Try.prog 4 #[.string a] w fun e w' => e = .returned (.bool true) ∧ Below w.heap.size w w' := by
  unfold maxLen at ha
  by_cases h : a.size ≤ 524288
  · exact top4_in a w h
  · exact top4_no a w ha h

end Go.Proofs.Qxb6608992a
