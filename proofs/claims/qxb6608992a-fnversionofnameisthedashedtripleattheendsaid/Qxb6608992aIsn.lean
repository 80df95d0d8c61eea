import Derived.Test.Qxb6608992aPars
/-
  cluster.isNumber and cluster.allDigits.
-/
namespace Go.Proofs.Qxb6608992a
open Go.RowKit

set_option maxHeartbeats 1000000 in
theorem digits31 (s : ByteArray) (w : World) (hs : s.size ≤ maxLen) :
    Calls Try.prog 31 #[.string s] w fun e w' => e = .returned (.bool (allD s.data.toList)) ∧ w' = w := by
  unfold maxLen at hs
  go_enter Try.func31, Try.ntmps31
  go_wp2
  go_loop [6] (fun vi => ∃ k : Nat, k ≤ s.size ∧ vi = .int .i64 k ∧ allD s.data.toList = allD (s.data.toList.drop k)) (fun vi => s.size - (intOf vi).toNat)
  case atStart => exact ⟨0, Nat.zero_le _, rfl, rfl⟩
  case round =>
    obtain ⟨k, hk, rfl, hall⟩ := hrel
    by_cases hlt : k < s.size
    · rw [drop_byte s k hlt] at hall
      have hb : s[k].toNat < 256 := s[k].toNat_lt
      by_cases h1 : s[k].toNat < 48
      · have HA : Hid (allD s.data.toList = false) := by
          show _ = _
          rw [hall]; simp [allD, isD]; omega
        clear hall
        go_wp2
        go_ret
        exact ⟨ret_bool HA.out.symm, rfl⟩
      · by_cases h2 : 57 < s[k].toNat
        · have HA : Hid (allD s.data.toList = false) := by
            show _ = _
            rw [hall]; simp [allD, isD]; omega
          clear hall
          go_wp2
          go_ret
          exact ⟨ret_bool HA.out.symm, rfl⟩
        · have HA : Hid (allD s.data.toList = allD (s.data.toList.drop (k + 1))) := by
            show _ = _
            rw [hall]
            have : isD s[k] = true := decide_eq_true (by omega)
            simp [allD, this]
          clear hall
          go_wp2
          go_round
          case rel => exact ⟨k + 1, by omega, by go_num, HA.out⟩
          case measure => simp [intOf]; omega
    · have HA : Hid (allD s.data.toList = true) := by
        show _ = _
        rw [hall, List.drop_eq_nil_of_le (by simp; omega)]; rfl
      clear hall
      go_wp2
      go_ret
      exact ⟨ret_bool HA.out.symm, rfl⟩

set_option maxHeartbeats 1000000 in
theorem isnum26 (s : ByteArray) (w : World) (hs : s.size ≤ maxLen) :
    Calls Try.prog 26 #[.string s] w fun e w' => e = .returned (.bool (isN s.data.toList)) ∧ w' = w := by
  have C9 := hid (digits31 s w hs)
  unfold maxLen at hs
  by_cases h0 : s.size = 0
  · have hb : s.toList = [] := by rw [ByteArray.toList_eq]; exact List.eq_nil_of_length_eq_zero (by simpa using h0)
    have HA : Hid (isN s.data.toList = false) := by
      show _ = _
      have : s.data.toList = [] := List.eq_nil_of_length_eq_zero (by simpa using h0)
      rw [this]; rfl
    go_enter Try.func26, Try.ntmps26
    go_wp2
    go_ret
    exact ⟨ret_bool HA.out.symm, rfl⟩
  · have h0' : 0 < s.size := by omega
    have hb0 : s.toList.isEmpty = false := by rw [ByteArray.toList_eq]; cases hl : s.data.toList with | nil => (exfalso; apply h0; have := congrArg List.length hl; simpa using this) | cons _ _ => rfl
    have hb : ¬ s.toList = [] := by rw [ByteArray.toList_eq]; intro h; apply h0; have := congrArg List.length h; simpa using this
    have hlist : s.data.toList = s[0] :: s.data.toList.drop 1 := by
      have := drop_byte s 0 (by omega)
      simpa using this
    cases hd : allD s.data.toList with
    | false =>
      rw [hd] at C9
      have HA : Hid (isN s.data.toList = false) := by
        show _ = _
        unfold isN; rw [hd]; simp
      clear hlist hd
      go_enter Try.func26, Try.ntmps26
      go_wp2_with fail
      refine C9.out.mono ?_
      rintro e wa ⟨rfl, hwa⟩
      rw [hwa]; clear hwa wa
      go_wp2
      go_ret
      exact ⟨ret_bool HA.out.symm, rfl⟩
    | true =>
      rw [hd] at C9
      have HI : Hid (isN s.data.toList = (decide (s.size = 1) || decide (s[0].toNat ≠ 48))) := by
        show _ = _
        have hlen : s.data.toList.length = s.size := by simp
        unfold isN
        rw [hd, hlen]
        have e1 : s.data.toList.isEmpty = false := by rw [hlist]; rfl
        have e2 : s.data.toList.head? = some s[0] := by rw [hlist]; rfl
        rw [e1, e2]
        have e3 : (some s[0] != some (48 : UInt8)) = decide (s[0].toNat ≠ 48) := by
          rw [Bool.eq_iff_iff]
          simp only [bne_iff_ne, ne_eq, Option.some.injEq, decide_eq_true_eq]
          constructor
          · intro h e; exact h (UInt8.toNat_inj.1 (by simpa using e))
          · intro h e; exact h (by rw [e]; rfl)
        rw [e3]
        have e4 : (s.size == 1) = decide (s.size = 1) := by rw [Bool.eq_iff_iff]; simp
        simp [e4]
      clear hlist hd
      by_cases h1 : s.size = 1
      · have hb1 : ((s.size : Int) == 1) = true := by simp [h1]
        have HA : Hid (isN s.data.toList = true) := by
          show _ = _
          rw [HI.out, h1]; simp
        go_enter Try.func26, Try.ntmps26
        go_wp2_with fail
        refine C9.out.mono ?_
        rintro e wa ⟨rfl, hwa⟩
        rw [hwa]; clear hwa wa
        go_wp2
        go_ret
        exact ⟨ret_bool HA.out.symm, rfl⟩
      · have hb1 : ((s.size : Int) == 1) = false := by simp; omega
        go_enter Try.func26, Try.ntmps26
        go_wp2_with fail
        refine C9.out.mono ?_
        rintro e wa ⟨rfl, hwa⟩
        rw [hwa]; clear hwa wa
        go_wp2
        go_ret
        refine ⟨ret_bool ?_, rfl⟩
        rw [HI.out, Bool.eq_iff_iff]
        simp [h1]
        omega

end Go.Proofs.Qxb6608992a
