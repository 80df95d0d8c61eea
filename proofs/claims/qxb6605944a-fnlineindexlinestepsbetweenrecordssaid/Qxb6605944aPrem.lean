import Derived.Test.Qxb6605944aRows
import Derived.Test.Qxb6605944aPlain
import Derived.WalkKit
import Derived.Deep.QuietTactic
import Derived.BigQuiet
namespace Go.Proofs.Qxb6605944a
open Go.RowKit
set_option linter.unusedVariables false

/-- What zzLinePremise says when it says yes. -/
structure Prem (records first last : Int) (ps : List (Nat × Nat)) (step count : Int) : Prop where
  f1 : 1 ≤ first
  f2 : first ≤ 2305843009213693952
  s1 : 0 ≤ step
  s2 : step ≤ 1073741824
  c1 : 0 ≤ count
  c2 : count ≤ 2147483648
  hr : (cnt ps : Int) + count = records - 1
  hl : last = first + ((tot ps : Int) + step * count)
  ht : (tot ps : Int) + step * count ≤ 2305843009213693952

theorem take_cnt (ps : List (Nat × Nat)) (k : Nat) (h : k < ps.length) : cnt (ps.take (k + 1)) = cnt (ps.take k) + (ps[k]).2 := by
  rw [List.take_succ_eq_append_getElem h, cnt_append]; simp [cnt]
theorem take_tot (ps : List (Nat × Nat)) (k : Nat) (h : k < ps.length) : tot (ps.take (k + 1)) = tot (ps.take k) + (ps[k]).1 * (ps[k]).2 := by
  rw [List.take_succ_eq_append_getElem h, tot_append]; simp [tot]
theorem cnt_le : ∀ (ps : List (Nat × Nat)) (h : Small ps), cnt ps ≤ ps.length * 2147483648
  | [], _ => by simp [cnt]
  | p :: ps, h => by
    have := cnt_le ps (fun q hq => h q (List.mem_cons_of_mem _ hq))
    have := h p (List.mem_cons_self ..)
    simp only [cnt, List.length_cons]; omega
theorem Small.take {ps : List (Nat × Nat)} (h : Small ps) (k : Nat) : Small (ps.take k) := fun p hp => h p (List.mem_of_mem_take hp)

/-- It answers a bool; where that is true P holds; of the world nothing has turned but the count of draws. -/
def BoolPost (w : World) (P : Prop) (e : Ending) (w' : World) : Prop := ∃ b : Bool, e = .returned (.bool b) ∧ (b = true → P) ∧ ∃ q, w' = w.drewN q
theorem BoolPost.no {w : World} {P : Prop} (q : Nat) : BoolPost w P (.returned (.bool false)) (w.drewN q) := ⟨false, rfl, (fun h => by cases h), q, rfl⟩
theorem BoolPost.no0 {w : World} {P : Prop} : BoolPost w P (.returned (.bool false)) w := ⟨false, rfl, (fun h => by cases h), 0, rfl⟩
theorem BoolPost.dec {w : World} {P : Prop} {b : Bool} (q : Nat) (h : b = true → P) : BoolPost w P (.returned (.bool b)) (w.drewN q) := ⟨b, rfl, h, q, rfl⟩

set_option maxHeartbeats 1000000 in
set_option maxRecDepth 100000 in
theorem premise_bad (records first last step count : Int) (a1 a2 : Option Addr) (n c1 m c2 : Nat) (ps : List (Nat × Nat)) (w : World)
    (h : ¬ ((1 ≤ first ∧ first ≤ 2305843009213693952) ∧ (0 ≤ step ∧ step ≤ 1073741824) ∧ 0 ≤ count ∧ count ≤ 2147483648)) :
    Calls Try.prog 7 #[.int .i64 records, .int .i64 first, .int .i64 last, .slice a1 n c1, .slice a2 m c2, .int .i64 step, .int .i64 count] w
      (BoolPost w (Prem records first last ps step count)) := by
  by_cases hf1 : 1 ≤ first
  · by_cases hf2 : first ≤ 2305843009213693952
    · by_cases hs1 : 0 ≤ step
      · by_cases hs2 : step ≤ 1073741824
        · by_cases hc1 : 0 ≤ count
          · by_cases hc2 : count ≤ 2147483648
            · exact absurd ⟨⟨hf1, hf2⟩, ⟨hs1, hs2⟩, hc1, hc2⟩ h
            all_goals (clear h; go_enter Try.func7, Try.ntmps7; go_wp2; go_ret; exact BoolPost.no0)
          all_goals (clear h; go_enter Try.func7, Try.ntmps7; go_wp2; go_ret; exact BoolPost.no0)
        all_goals (clear h; go_enter Try.func7, Try.ntmps7; go_wp2; go_ret; exact BoolPost.no0)
      all_goals (clear h; go_enter Try.func7, Try.ntmps7; go_wp2; go_ret; exact BoolPost.no0)
    all_goals (clear h; go_enter Try.func7, Try.ntmps7; go_wp2; go_ret; exact BoolPost.no0)
  all_goals (clear h; go_enter Try.func7, Try.ntmps7; go_wp2; go_ret; exact BoolPost.no0)

set_option maxHeartbeats 1000000 in
set_option maxRecDepth 100000 in
theorem premise_some (records first last step count : Int) (gs gc c1 c2 : Nat) (ps : List (Nat × Nat)) (w : World)
    (w0 : 1 ≤ records) (w0' : records ≤ 9223372036854775807) (hsm : Small ps) (hn : ps.length ≤ 65536)
    (hf1 : 1 ≤ first) (hf2 : first ≤ 2305843009213693952) (hs1 : 0 ≤ step) (hs2 : step ≤ 1073741824) (hc1 : 0 ≤ count) (hc2 : count ≤ 2147483648)
    (hs : ∀ j (hj : j < ps.length), w.cell? ⟨gs, j, none⟩ = some (.int .i64 ((ps[j]).1 : Nat)))
    (hc : ∀ j (hj : j < ps.length), w.cell? ⟨gc, j, none⟩ = some (.int .i64 ((ps[j]).2 : Nat))) :
    Calls Try.prog 7 #[.int .i64 records, .int .i64 first, .int .i64 last, .slice (some ⟨gs, 0, none⟩) ps.length c1, .slice (some ⟨gc, 0, none⟩) ps.length c2, .int .i64 step, .int .i64 count] w
      (BoolPost w (Prem records first last ps step count)) := by
  go_enter Try.func7, Try.ntmps7
  go_wp2
  go_loopw [15, 16, 17] (fun s t i wr => ∃ k q : Nat, k ≤ ps.length ∧ i = .int .i64 k ∧ s = .int .i64 (cnt (ps.take k)) ∧ t = .int .i64 (tot (ps.take k)) ∧ tot (ps.take k) ≤ 2305843009213693952 ∧ wr = w.drewN q)
    (fun _ _ i _ => ps.length - (intOf i).toNat)
  case atStart => exact ⟨0, 0, by omega, rfl, rfl, rfl, by simp [tot], rfl⟩
  case round =>
    obtain ⟨k, q, hk, rfl, rfl, rfl, ht, rfl⟩ := hrel
    have hcl := cnt_le _ (hsm.take k)
    have hlen : (ps.take k).length ≤ k := List.length_take_le _ _
    by_cases hlt : k < ps.length
    · have e1 := take_cnt ps k hlt
      have e2 := take_tot ps k hlt
      have hb := hsm _ (List.getElem_mem hlt)
      have hsk := hs k hlt
      have hck := hc k hlt
      generalize ps[k] = p at *
      obtain ⟨s, c⟩ := p
      simp only at e1 e2 hb hsk hck
      have hm : s * c ≤ 1073741824 * 2147483648 := Nat.mul_le_mul hb.1 hb.2
      have hm1 : (s : Int) * (c : Int) ≤ 2305843009213693952 := by rw [← Int.natCast_mul]; omega
      have hm0 : 0 ≤ (s : Int) * (c : Int) := by rw [← Int.natCast_mul]; omega
      generalize cnt (ps.take k) = a at *
      generalize tot (ps.take k) = t at *
      have E1 : Hid (cnt (ps.take (k + 1)) = a + c) := e1
      have E2 : Hid (tot (ps.take (k + 1)) = t + s * c) := e2
      clear e1 e2
      clear hs hc
      go_wp2
      go_quiet (fail)
      go_wp2
      · go_ret
        exact BoolPost.no _
      · go_roundw
        case rel => exact ⟨k + 1, q + nq, by omega, by go_num, by rw [E1.out]; go_num, by rw [E2.out]; go_num, by rw [E2.out]; omega, rfl⟩
        case measure => simp [intOf]; omega
    · have hkn : ps.take k = ps := List.take_of_length_le (by omega)
      rw [hkn] at ht hcl ⊢
      clear hkn hlen hs hc
      have hm1 : step * count ≤ 1073741824 * 2147483648 := Int.mul_le_mul hs2 hc2 hc1 (by decide)
      have hm0 : 0 ≤ step * count := Int.mul_nonneg hs1 hc1
      go_wp2
      · go_ret
        exact BoolPost.no _
      · go_ret
        exact BoolPost.dec _ (fun hb => ⟨hf1, hf2, hs1, hs2, hc1, hc2, by assumption, eq_of_beq hb, by assumption⟩)
      · go_ret
        exact BoolPost.no _

set_option maxHeartbeats 1000000 in
set_option maxRecDepth 100000 in
theorem premise_nil (records first last step count : Int) (w : World)
    (w0 : 1 ≤ records) (w0' : records ≤ 9223372036854775807)
    (hf1 : 1 ≤ first) (hf2 : first ≤ 2305843009213693952) (hs1 : 0 ≤ step) (hs2 : step ≤ 1073741824) (hc1 : 0 ≤ count) (hc2 : count ≤ 2147483648) :
    Calls Try.prog 7 #[.int .i64 records, .int .i64 first, .int .i64 last, .slice none 0 0, .slice none 0 0, .int .i64 step, .int .i64 count] w
      (BoolPost w (Prem records first last [] step count)) := by
  have hm1 : step * count ≤ 1073741824 * 2147483648 := Int.mul_le_mul hs2 hc2 hc1 (by decide)
  have hm0 : 0 ≤ step * count := Int.mul_nonneg hs1 hc1
  by_cases hr : records = count + 1
  · subst hr
    go_enter Try.func7, Try.ntmps7
    go_wp2
    refine wp_loop_rounds 1 ?_
    rw [rounds_succ]
    go_wp2
    go_ret
    exact BoolPost.dec 0 (fun hb => ⟨hf1, hf2, hs1, hs2, hc1, hc2, by simp [cnt], by simp [tot]; exact eq_of_beq hb, by simp [tot]; omega⟩)
  · have hr2 : (count == records - 1) = false := by simp; omega
    go_enter Try.func7, Try.ntmps7
    go_wp2
    refine wp_loop_rounds 1 ?_
    rw [rounds_succ]
    go_wp2
    go_ret
    exact BoolPost.no0

end Go.Proofs.Qxb6605944a
