import Derived.Test.Qxb6605944aRows
import Derived.Test.Qxb6605944aPlain
import Derived.WalkKit
namespace Go.Proofs.Qxb6605944a
open Go.RowKit
set_option linter.unusedVariables false

/-- What zzStepsBack gives. -/
def sb (ps : List (Nat × Nat)) (st c r : Nat) : Nat := min r c * st + bk ps.reverse (r - min r c)

theorem take_rev (ps : List (Nat × Nat)) (j : Nat) (h : j < ps.length) : (ps.take (j + 1)).reverse = ps[j] :: (ps.take j).reverse := by
  rw [List.take_succ_eq_append_getElem h]; simp

theorem ret_int {k : IntKind} {a b : Int} (h : a = b) : Ending.returned (.int k a) = .returned (.int k b) := by rw [h]

set_option maxHeartbeats 1000000 in
set_option maxRecDepth 100000 in
theorem stepsBack_some (step count r : Int) (gs gc c1 c2 : Nat) (ps : List (Nat × Nat)) (w : World)
    (hsm : Small ps) (hn : ps.length ≤ 65536) (h0 : 0 ≤ step) (h1 : 0 ≤ count) (h2 : 0 ≤ r) (hr : r ≤ 4611686018427387904)
    (hV : sb ps step.toNat count.toNat r.toNat ≤ 2305843009213693952)
    (hs : ∀ j (hj : j < ps.length), w.cell? ⟨gs, j, none⟩ = some (.int .i64 ((ps[j]).1 : Nat)))
    (hc : ∀ j (hj : j < ps.length), w.cell? ⟨gc, j, none⟩ = some (.int .i64 ((ps[j]).2 : Nat))) :
    Calls Try.prog 11 #[.slice (some ⟨gs, 0, none⟩) ps.length c1, .slice (some ⟨gc, 0, none⟩) ps.length c2, .int .i64 step, .int .i64 count, .int .i64 r] w
      fun e w' => e = .returned (.int .i64 (sb ps step.toNat count.toNat r.toNat : Nat)) ∧ w' = w := by
  obtain ⟨st, rfl⟩ := Int.eq_ofNat_of_zero_le h0
  obtain ⟨ct, rfl⟩ := Int.eq_ofNat_of_zero_le h1
  obtain ⟨rr, rfl⟩ := Int.eq_ofNat_of_zero_le h2
  simp only [Int.toNat_natCast] at hV ⊢
  generalize hVV : sb ps st ct rr = V at hV ⊢
  unfold sb at hVV
  by_cases hrc : ct < rr
  · have e1 : min rr ct = ct := by omega
    rw [e1] at hVV
    have hm : ((ct : Int) * (st : Int)) ≤ 2305843009213693952 := by rw [← Int.natCast_mul]; omega
    have hm0 : 0 ≤ ((ct : Int) * (st : Int)) := by rw [← Int.natCast_mul]; omega
    have HV : Hid (ct * st + bk ps.reverse (rr - ct) = V) := hVV
    clear hVV e1
    have hrc' : (ct : Int) < (rr : Int) := by omega
    go_enter Try.func11, Try.ntmps11
    go_wp2
    go_loop [4, 12, 13] (fun vr vs vi => ∃ j r' sm : Nat, j ≤ ps.length ∧ vi = .int .i64 ((j : Int) - 1) ∧ vr = .int .i64 r' ∧ vs = .int .i64 sm ∧ r' ≤ rr ∧ sm + bk (ps.take j).reverse r' = V)
      (fun _ _ vi => (intOf vi + 1).toNat)
    case atStart => exact ⟨ps.length, rr - ct, ct * st, by omega, by go_num, by go_num, by go_num, by omega, by rw [List.take_of_length_le (by omega)]; exact HV.out⟩
    case round =>
      obtain ⟨j, r', sm, hj, rfl, rfl, rfl, hr', hbk⟩ := hrel
      by_cases hj0 : 0 < j
      · by_cases hr0 : 0 < r'
        · obtain ⟨i, rfl⟩ : ∃ i, j = i + 1 := ⟨j - 1, by omega⟩
          have hi : i < ps.length := by omega
          rw [take_rev ps i hi] at hbk
          have hb := hsm _ (List.getElem_mem hi)
          have hsk := hs i hi
          have hck := hc i hi
          generalize ps[i] = p at *
          obtain ⟨s, c⟩ := p
          simp only [bk] at hb hsk hck hbk
          by_cases hrs : c < r'
          · have e1 : min r' c = c := by omega
            rw [e1] at hbk
            have hm1 : ((c : Int) * (s : Int)) ≤ 2305843009213693952 := by rw [← Int.natCast_mul]; omega
            have hm2 : 0 ≤ ((c : Int) * (s : Int)) := by rw [← Int.natCast_mul]; omega
            have hm3 : (sm : Int) + ((c : Int) * (s : Int)) ≤ 2305843009213693952 := by rw [← Int.natCast_mul]; omega
            have HB : Hid (sm + (c * s + bk (ps.take i).reverse (r' - c)) = V) := hbk
            clear hbk e1 hs hc
            go_wp2
            go_round
            case rel => exact ⟨i, r' - c, sm + c * s, by omega, rfl, by go_num, by go_num, by omega, by have := HB.out; omega⟩
            case measure => simp [intOf]
          · have e1 : min r' c = r' := by omega
            rw [e1, Nat.sub_self, bk_zero] at hbk
            have hm1 : ((r' : Int) * (s : Int)) ≤ 2305843009213693952 := by rw [← Int.natCast_mul]; omega
            have hm2 : 0 ≤ ((r' : Int) * (s : Int)) := by rw [← Int.natCast_mul]; omega
            have hm3 : (sm : Int) + ((r' : Int) * (s : Int)) ≤ 2305843009213693952 := by rw [← Int.natCast_mul]; omega
            have HB : Hid (sm + (r' * s + 0) = V) := hbk
            clear hbk e1 hs hc
            go_wp2
            go_round
            case rel => exact ⟨i, 0, sm + r' * s, by omega, rfl, by go_num, by go_num, by omega, by have := HB.out; rw [bk_zero]; omega⟩
            case measure => simp [intOf]
        · obtain rfl : r' = 0 := by omega
          rw [bk_zero] at hbk
          have HB : Hid (sm + 0 = V) := hbk
          clear hbk hs hc
          go_wp2
          go_ret
          exact ⟨ret_int (by have := HB.out; omega), rfl⟩
      · obtain rfl : j = 0 := by omega
        have HB : Hid (sm + 0 = V) := hbk
        clear hbk hs hc
        go_wp2
        go_ret
        exact ⟨ret_int (by have := HB.out; omega), rfl⟩
  · have e1 : min rr ct = rr := by omega
    rw [e1, Nat.sub_self, bk_zero] at hVV
    have hm : ((rr : Int) * (st : Int)) ≤ 2305843009213693952 := by rw [← Int.natCast_mul]; omega
    have hm0 : 0 ≤ ((rr : Int) * (st : Int)) := by rw [← Int.natCast_mul]; omega
    have HV : Hid (rr * st + 0 = V) := hVV
    clear hVV e1 hs hc
    have hrc' : ¬ (ct : Int) < (rr : Int) := by omega
    go_enter Try.func11, Try.ntmps11
    go_wp2
    refine wp_loop_rounds 1 ?_
    rw [rounds_succ]
    by_cases hl : ps.length = 0
    · have hl2 : ¬ (0 : Int) ≤ (ps.length : Int) - 1 := by omega
      go_wp2
      go_ret
      exact ⟨ret_int (by have := HV.out; rw [← Int.natCast_mul]; omega), rfl⟩
    · have hl2 : (0 : Int) ≤ (ps.length : Int) - 1 := by omega
      go_wp2
      go_ret
      exact ⟨ret_int (by have := HV.out; rw [← Int.natCast_mul]; omega), rfl⟩

set_option maxHeartbeats 1000000 in
set_option maxRecDepth 100000 in
theorem stepsBack_nil (step count r : Int) (w : World)
    (h0 : 0 ≤ step) (h1 : 0 ≤ count) (h2 : 0 ≤ r) (hr : r ≤ 4611686018427387904)
    (hV : sb [] step.toNat count.toNat r.toNat ≤ 2305843009213693952) :
    Calls Try.prog 11 #[.slice none 0 0, .slice none 0 0, .int .i64 step, .int .i64 count, .int .i64 r] w
      fun e w' => e = .returned (.int .i64 (sb [] step.toNat count.toNat r.toNat : Nat)) ∧ w' = w := by
  obtain ⟨st, rfl⟩ := Int.eq_ofNat_of_zero_le h0
  obtain ⟨ct, rfl⟩ := Int.eq_ofNat_of_zero_le h1
  obtain ⟨rr, rfl⟩ := Int.eq_ofNat_of_zero_le h2
  simp only [Int.toNat_natCast] at hV ⊢
  generalize hVV : sb [] st ct rr = V at hV ⊢
  unfold sb at hVV
  simp only [List.reverse_nil, bk] at hVV
  by_cases hrc : ct < rr
  · have e1 : min rr ct = ct := by omega
    rw [e1] at hVV
    have hm : ((ct : Int) * (st : Int)) ≤ 2305843009213693952 := by rw [← Int.natCast_mul]; omega
    have hm0 : 0 ≤ ((ct : Int) * (st : Int)) := by rw [← Int.natCast_mul]; omega
    have HV : Hid (ct * st + 0 = V) := hVV
    clear hVV e1
    have hrc' : (ct : Int) < (rr : Int) := by omega
    go_enter Try.func11, Try.ntmps11
    go_wp2
    refine wp_loop_rounds 1 ?_
    rw [rounds_succ]
    go_wp2
    go_ret
    exact ⟨ret_int (by have := HV.out; rw [← Int.natCast_mul]; omega), rfl⟩
  · have e1 : min rr ct = rr := by omega
    rw [e1] at hVV
    have hm : ((rr : Int) * (st : Int)) ≤ 2305843009213693952 := by rw [← Int.natCast_mul]; omega
    have hm0 : 0 ≤ ((rr : Int) * (st : Int)) := by rw [← Int.natCast_mul]; omega
    have HV : Hid (rr * st + 0 = V) := hVV
    clear hVV e1
    have hrc' : ¬ (ct : Int) < (rr : Int) := by omega
    go_enter Try.func11, Try.ntmps11
    go_wp2
    refine wp_loop_rounds 1 ?_
    rw [rounds_succ]
    go_wp2
    go_ret
    exact ⟨ret_int (by have := HV.out; rw [← Int.natCast_mul]; omega), rfl⟩

theorem drop_get (ps : List (Nat × Nat)) (j : Nat) (h : j < ps.length) : ps.drop j = ps[j] :: ps.drop (j + 1) := List.drop_eq_getElem_cons h

set_option maxHeartbeats 1000000 in
set_option maxRecDepth 100000 in
theorem stepAt_some (step n : Int) (gs gc c1 c2 : Nat) (ps : List (Nat × Nat)) (w : World)
    (hsm : Small ps) (hn : ps.length ≤ 65536) (h0 : 0 ≤ step) (h1 : 0 ≤ n) (hn2 : n ≤ 4611686018427387904)
    (hs : ∀ j (hj : j < ps.length), w.cell? ⟨gs, j, none⟩ = some (.int .i64 ((ps[j]).1 : Nat)))
    (hc : ∀ j (hj : j < ps.length), w.cell? ⟨gc, j, none⟩ = some (.int .i64 ((ps[j]).2 : Nat))) :
    Calls Try.prog 13 #[.slice (some ⟨gs, 0, none⟩) ps.length c1, .slice (some ⟨gc, 0, none⟩) ps.length c2, .int .i64 step, .int .i64 n] w
      fun e w' => e = .returned (.int .i64 (stepAt ps step.toNat n.toNat : Nat)) ∧ w' = w := by
  obtain ⟨st, rfl⟩ := Int.eq_ofNat_of_zero_le h0
  obtain ⟨m, rfl⟩ := Int.eq_ofNat_of_zero_le h1
  simp only [Int.toNat_natCast]
  generalize hVV : stepAt ps st m = V
  have HV : Hid (stepAt ps st m = V) := hVV
  clear hVV
  go_enter Try.func13, Try.ntmps13
  go_wp2
  go_loop [9, 10] (fun vk vi => ∃ j k : Nat, j ≤ ps.length ∧ vi = .int .i64 j ∧ vk = .int .i64 k ∧ k ≤ m ∧ stepAt (ps.drop j) st k = V)
    (fun _ vi => ps.length - (intOf vi).toNat)
  case atStart => exact ⟨0, m, by omega, rfl, rfl, by omega, HV.out⟩
  case round =>
    obtain ⟨j, k, hj, rfl, rfl, hk, hst⟩ := hrel
    by_cases hlt : j < ps.length
    · rw [drop_get ps j hlt] at hst
      have hb := hsm _ (List.getElem_mem hlt)
      have hsk := hs j hlt
      have hck := hc j hlt
      generalize ps[j] = p at *
      obtain ⟨s, c⟩ := p
      simp only [stepAt] at hb hsk hck hst
      by_cases hkc : k ≤ c
      · rw [if_pos hkc] at hst
        subst hst
        clear hs hc HV
        go_wp2
        go_ret
        exact ⟨rfl, rfl⟩
      · rw [if_neg hkc] at hst
        have HS : Hid (stepAt (ps.drop (j + 1)) st (k - c) = V) := hst
        clear hst hs hc HV
        go_wp2
        go_round
        case rel => exact ⟨j + 1, k - c, by omega, by go_num, by go_num, by omega, HS.out⟩
        case measure => simp [intOf]; omega
    · rw [List.drop_eq_nil_of_le (by omega)] at hst
      simp only [stepAt] at hst
      subst hst
      clear hs hc HV
      go_wp2
      go_ret
      exact ⟨rfl, rfl⟩

set_option maxHeartbeats 1000000 in
set_option maxRecDepth 100000 in
theorem stepAt_nil (step n : Int) (w : World) (h0 : 0 ≤ step) :
    Calls Try.prog 13 #[.slice none 0 0, .slice none 0 0, .int .i64 step, .int .i64 n] w
      fun e w' => e = .returned (.int .i64 (stepAt [] step.toNat n.toNat : Nat)) ∧ w' = w := by
  obtain ⟨st, rfl⟩ := Int.eq_ofNat_of_zero_le h0
  simp only [Int.toNat_natCast, stepAt]
  go_enter Try.func13, Try.ntmps13
  go_wp2
  refine wp_loop_rounds 1 ?_
  rw [rounds_succ]
  go_wp2
  go_ret
  exact ⟨rfl, rfl⟩

end Go.Proofs.Qxb6605944a
