import Derived.Test.Qxb6608625aTopB
import Derived.Test.Qxb6608625aSix
/-
  The second law at whatever six rows.
-/
namespace Go.Proofs.Qxb6608625a
open Go.RowKit
set_option linter.unusedVariables false

set_option maxHeartbeats 4000000 in
set_option maxRecDepth 100000 in
theorem top4_big (w : World) (a0 a1 a2 a3 a4 a5 : Option Addr) (n0 n1 n2 n3 n4 n5 c0 c1 c2 c3 c4 c5 : Nat) (base arr ov lost cc : Int) (h : ¬ n0 + n1 + n2 + n3 + n4 + n5 ≤ 1048576) :
    Calls Try.prog 4 #[.slice a0 n0 c0, .slice a1 n1 c1, .slice a2 n2 c2, .slice a3 n3 c3, .slice a4 n4 c4, .slice a5 n5 c5, .int .i64 base, .int .i64 arr, .int .i64 ov, .int .i64 lost, .int .i64 cc] w
      fun e w' => e = .returned (.bool true) ∧ Below w.heap.size w w' := by
  have C5 := hid (bytes12_no w a0 a1 a2 a3 a4 a5 n0 c0 n1 c1 n2 c2 n3 c3 n4 c4 n5 c5 base arr ov lost cc h)
  clear h
  go_enter Try.func4, Try.ntmps4
  go_wp2_with fail
  refine C5.out.mono ?_
  rintro e wa ⟨rfl, hwa⟩
  rw [hwa]; clear hwa wa C5
  go_wp2
  go_ret
  exact ⟨rfl, Below.refl _ _⟩

set_option maxHeartbeats 4000000 in
set_option maxRecDepth 100000 in
theorem top4_heavy (w : World) (a0 a1 a2 a3 a4 a5 : Option Addr) (n0 n1 n2 n3 n4 n5 c0 c1 c2 c3 c4 c5 : Nat) (base arr ov lost cc : Int) (h : n0 + n1 + n2 + n3 + n4 + n5 ≤ 1048576) (h2 : ¬ 4 * n0 + 4 * n1 + 8 * n2 + n3 + n4 + n5 ≤ 1048576) :
    Calls Try.prog 4 #[.slice a0 n0 c0, .slice a1 n1 c1, .slice a2 n2 c2, .slice a3 n3 c3, .slice a4 n4 c4, .slice a5 n5 c5, .int .i64 base, .int .i64 arr, .int .i64 ov, .int .i64 lost, .int .i64 cc] w
      fun e w' => e = .returned (.bool true) ∧ Below w.heap.size w w' := by
  have C5 := hid (bytes12 w a0 a1 a2 a3 a4 a5 n0 c0 n1 c1 n2 c2 n3 c3 n4 c4 n5 c5 base arr ov lost cc h)
  go_enter Try.func4, Try.ntmps4
  go_wp2_with fail
  refine C5.out.mono ?_
  rintro e wa ⟨rfl, hwa⟩
  rw [hwa]; clear hwa wa C5
  go_wp2
  go_ret
  exact ⟨rfl, Below.refl _ _⟩

set_option maxHeartbeats 4000000 in
set_option maxRecDepth 100000 in
theorem top4_ne (w : World) (a0 a1 a2 a3 a4 a5 : Option Addr) (n0 n1 n2 n3 n4 n5 c0 c1 c2 c3 c4 c5 : Nat) (base arr ov lost cc : Int) (h : n0 + n1 + n2 + n3 + n4 + n5 ≤ 1048576) (h2 : 4 * n0 + 4 * n1 + 8 * n2 + n3 + n4 + n5 ≤ 1048576)
    (hne : ¬ (n1 = n0 ∧ n2 = n0 ∧ n3 = n0 ∧ n4 = n0 ∧ n5 = n0)) :
    Calls Try.prog 4 #[.slice a0 n0 c0, .slice a1 n1 c1, .slice a2 n2 c2, .slice a3 n3 c3, .slice a4 n4 c4, .slice a5 n5 c5, .int .i64 base, .int .i64 arr, .int .i64 ov, .int .i64 lost, .int .i64 cc] w
      fun e w' => e = .returned (.bool true) ∧ Below w.heap.size w w' := by
  have C5 := hid (bytes12 w a0 a1 a2 a3 a4 a5 n0 c0 n1 c1 n2 c2 n3 c3 n4 c4 n5 c5 base arr ov lost cc h)
  have C6 := hid (wf_bad w a0 a1 a2 a3 a4 a5 n0 c0 n1 c1 n2 c2 n3 c3 n4 c4 n5 c5 [] arr lost hne)
  have HN := hid hne
  clear hne
  go_enter Try.func4, Try.ntmps4
  go_wp2_with fail
  refine C5.out.mono ?_
  rintro e wa ⟨rfl, hwa⟩
  rw [hwa]; clear hwa wa C5
  go_wp2_with fail
  refine C6.out.mono ?_
  rintro e wa ⟨b, rfl, hb, hwa⟩
  rw [hwa]; clear hwa wa C6
  cases b with
  | false =>
    go_wp2
    go_ret
    exact ⟨rfl, Below.refl _ _⟩
  | true =>
    have hw := hb rfl
    exact absurd ⟨hw.e1, hw.e2, hw.e3, hw.e4, hw.e5⟩ HN.out

theorem top4 (w : World) (a0 a1 a2 a3 a4 a5 : Option Addr) (n0 n1 n2 n3 n4 n5 c0 c1 c2 c3 c4 c5 : Nat) (base arr ov lost cc : Int) (z0 z1 z2 : Nat → Int) (b3 b4 b5 : Nat → Bool) (hbase : -9223372036854775808 ≤ base ∧ base ≤ 9223372036854775807)
    (g0 : a0 = none → n0 = c0) (g1 : a1 = none → n1 = c1) (g2 : a2 = none → n2 = c2) (g3 : a3 = none → n3 = c3) (g4 : a4 = none → n4 = c4) (g5 : a5 = none → n5 = c5)
    (h : In6 w (.slice a0 n0 c0) (.slice a1 n1 c1) (.slice a2 n2 c2) (.slice a3 n3 c3) (.slice a4 n4 c4) (.slice a5 n5 c5) n0 n1 n2 n3 n4 n5 z0 z1 z2 b3 b4 b5) :
    Calls Try.prog 4 #[.slice a0 n0 c0, .slice a1 n1 c1, .slice a2 n2 c2, .slice a3 n3 c3, .slice a4 n4 c4, .slice a5 n5 c5, .int .i64 base, .int .i64 arr, .int .i64 ov, .int .i64 lost, .int .i64 cc] w
      fun e w' => e = .returned (.bool true) ∧ Below w.heap.size w w' := by
  by_cases h1 : n0 + n1 + n2 + n3 + n4 + n5 ≤ 1048576
  · by_cases h2 : 4 * n0 + 4 * n1 + 8 * n2 + n3 + n4 + n5 ≤ 1048576
    · by_cases h3 : n1 = n0 ∧ n2 = n0 ∧ n3 = n0 ∧ n4 = n0 ∧ n5 = n0
      · obtain ⟨e1, e2, e3, e4, e5⟩ := h3
        subst e1 e2 e3 e4 e5
        exact top4_eq w a0 a1 a2 a3 a4 a5 _ c0 c1 c2 c3 c4 c5 base arr ov lost cc (mkR n5 z0 z1 z2 b3 b4 b5) (mk_len _ _ _ _ _ _ _) h.six (by omega) hbase (fun h => (g0 h).symm) (fun h => (g1 h).symm) (fun h => (g2 h).symm) (fun h => (g3 h).symm) (fun h => (g4 h).symm) (fun h => (g5 h).symm) (hid (wf_mk w a0 a1 a2 a3 a4 a5 n5 c0 c1 c2 c3 c4 c5 arr lost z0 z1 z2 b3 b4 b5 (by omega) h))
      · exact top4_ne w a0 a1 a2 a3 a4 a5 n0 n1 n2 n3 n4 n5 c0 c1 c2 c3 c4 c5 base arr ov lost cc h1 h2 h3
    · exact top4_heavy w a0 a1 a2 a3 a4 a5 n0 n1 n2 n3 n4 n5 c0 c1 c2 c3 c4 c5 base arr ov lost cc h1 h2
  · exact top4_big w a0 a1 a2 a3 a4 a5 n0 n1 n2 n3 n4 n5 c0 c1 c2 c3 c4 c5 base arr ov lost cc h1

end Go.Proofs.Qxb6608625a
