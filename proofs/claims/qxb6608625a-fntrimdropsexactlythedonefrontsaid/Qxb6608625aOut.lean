import Derived.Test.Qxb6608625aTopA
import Derived.Deep.Grids
/-
  The first law at whatever six rows.
-/
namespace Go.Proofs.Qxb6608625a
open Go.RowKit
set_option linter.unusedVariables false

/-- A slice that came in, its cells by their index. -/
theorem row_of {w : World} {a : Addr} {len cap : Nat} {V : Nat → Value} (hl : len ≤ cap) (h : ∀ i, i < cap → w.cell? (a.add i) = some (V i)) : Row w (.slice (some a) len cap) ((List.range len).map V) := by
  by_cases h0 : len = 0
  · subst h0
    exact .inl ⟨rfl, _, _, rfl⟩
  · obtain ⟨g, o, spot⟩ := a
    have hspot : spot = none := by simpa [Addr.add] using World.cell?_spot (h 0 (by omega))
    subst hspot
    refine .inr ⟨g, o, cap, by simp, by simpa using hl, fun j hj => ?_⟩
    have hj' : j < len := by simpa using hj
    have := h j (by omega)
    rw [Go.WideShapes.add_plain] at this
    rw [this]
    simp

/-- The requests that six rows of one length spell. -/
def mkR (n : Nat) (z0 z1 z2 : Nat → Int) (b3 b4 b5 : Nat → Bool) : List Rq := (List.range n).map fun j => ⟨z0 j, z1 j, z2 j, b3 j, b4 j, b5 j⟩
theorem mk_len (n : Nat) (z0 z1 z2 : Nat → Int) (b3 b4 b5 : Nat → Bool) : (mkR n z0 z1 z2 b3 b4 b5).length = n := by simp [mkR]

theorem cntA_mk (n : Nat) (z0 z1 z2 : Nat → Int) (b3 b4 b5 : Nat → Bool) : cntA (mkR n z0 z1 z2 b3 b4 b5) = cntT ((List.range n).map b4) := by
  unfold cntA cntT mkR
  rw [List.filter_map, List.filter_map, List.length_map, List.length_map]
  rfl

set_option maxHeartbeats 4000000 in
set_option maxRecDepth 100000 in
theorem top3_big (w : World) (a0 a1 a2 a3 a4 a5 : Option Addr) (n0 n1 n2 n3 n4 n5 c0 c1 c2 c3 c4 c5 : Nat) (base arr ov lost : Int) (h : ¬ n0 + n1 + n2 + n3 + n4 + n5 ≤ 1048576) :
    Calls Try.prog 3 #[.slice a0 n0 c0, .slice a1 n1 c1, .slice a2 n2 c2, .slice a3 n3 c3, .slice a4 n4 c4, .slice a5 n5 c5, .int .i64 base, .int .i64 arr, .int .i64 ov, .int .i64 lost] w
      fun e w' => e = .returned (.bool true) ∧ Below w.heap.size w w' := by
  have C5 := hid (bytes5_no w a0 a1 a2 a3 a4 a5 n0 c0 n1 c1 n2 c2 n3 c3 n4 c4 n5 c5 base arr ov lost h)
  clear h
  go_enter Try.func3, Try.ntmps3
  go_wp2_with fail
  refine C5.out.mono ?_
  rintro e wa ⟨rfl, hwa⟩
  rw [hwa]; clear hwa wa C5
  go_wp2
  go_ret
  exact ⟨rfl, Below.refl _ _⟩

set_option maxHeartbeats 4000000 in
set_option maxRecDepth 100000 in
theorem top3_heavy (w : World) (a0 a1 a2 a3 a4 a5 : Option Addr) (n0 n1 n2 n3 n4 n5 c0 c1 c2 c3 c4 c5 : Nat) (base arr ov lost : Int) (h : n0 + n1 + n2 + n3 + n4 + n5 ≤ 1048576) (h2 : ¬ 4 * n0 + 4 * n1 + 8 * n2 + n3 + n4 + n5 ≤ 1048576) :
    Calls Try.prog 3 #[.slice a0 n0 c0, .slice a1 n1 c1, .slice a2 n2 c2, .slice a3 n3 c3, .slice a4 n4 c4, .slice a5 n5 c5, .int .i64 base, .int .i64 arr, .int .i64 ov, .int .i64 lost] w
      fun e w' => e = .returned (.bool true) ∧ Below w.heap.size w w' := by
  have C5 := hid (bytes5 w a0 a1 a2 a3 a4 a5 n0 c0 n1 c1 n2 c2 n3 c3 n4 c4 n5 c5 base arr ov lost h)
  go_enter Try.func3, Try.ntmps3
  go_wp2_with fail
  refine C5.out.mono ?_
  rintro e wa ⟨rfl, hwa⟩
  rw [hwa]; clear hwa wa C5
  go_wp2
  go_ret
  exact ⟨rfl, Below.refl _ _⟩

set_option maxHeartbeats 4000000 in
set_option maxRecDepth 100000 in
theorem top3_ne (w : World) (a0 a1 a2 a3 a4 a5 : Option Addr) (n0 n1 n2 n3 n4 n5 c0 c1 c2 c3 c4 c5 : Nat) (base arr ov lost : Int) (h : n0 + n1 + n2 + n3 + n4 + n5 ≤ 1048576) (h2 : 4 * n0 + 4 * n1 + 8 * n2 + n3 + n4 + n5 ≤ 1048576)
    (hne : ¬ (n1 = n0 ∧ n2 = n0 ∧ n3 = n0 ∧ n4 = n0 ∧ n5 = n0)) :
    Calls Try.prog 3 #[.slice a0 n0 c0, .slice a1 n1 c1, .slice a2 n2 c2, .slice a3 n3 c3, .slice a4 n4 c4, .slice a5 n5 c5, .int .i64 base, .int .i64 arr, .int .i64 ov, .int .i64 lost] w
      fun e w' => e = .returned (.bool true) ∧ Below w.heap.size w w' := by
  have C5 := hid (bytes5 w a0 a1 a2 a3 a4 a5 n0 c0 n1 c1 n2 c2 n3 c3 n4 c4 n5 c5 base arr ov lost h)
  have C6 := hid (wf_bad w a0 a1 a2 a3 a4 a5 n0 c0 n1 c1 n2 c2 n3 c3 n4 c4 n5 c5 [] arr lost hne)
  have HN := hid hne
  clear hne
  go_enter Try.func3, Try.ntmps3
  go_wp2_with fail
  refine C5.out.mono ?_
  rintro e wa ⟨rfl, hwa⟩
  rw [hwa]; clear hwa wa C5
  go_wp2_with fail
  refine C6.out.mono ?_
  rintro e wa ⟨b, rfl, hb, hwa⟩
  rw [hwa]; clear hwa wa C6
  cases b with
  | false =>
    go_wp2
    go_ret
    exact ⟨rfl, Below.refl _ _⟩
  | true =>
    have hw := hb rfl
    exact absurd ⟨hw.e1, hw.e2, hw.e3, hw.e4, hw.e5⟩ HN.out

/-- Six rows that came in. -/
structure In6 (w : World) (v0 v1 v2 v3 v4 v5 : Value) (n0 n1 n2 n3 n4 n5 : Nat) (z0 z1 z2 : Nat → Int) (b3 b4 b5 : Nat → Bool) : Prop where
  r0 : Row w v0 ((List.range n0).map fun j => .int .u32 (z0 j))
  r1 : Row w v1 ((List.range n1).map fun j => .int .u32 (z1 j))
  r2 : Row w v2 ((List.range n2).map fun j => .int .i64 (z2 j))
  r3 : Row w v3 ((List.range n3).map fun j => .bool (b3 j))
  r4 : Row w v4 ((List.range n4).map fun j => .bool (b4 j))
  r5 : Row w v5 ((List.range n5).map fun j => .bool (b5 j))

theorem In6.six {w : World} {v0 v1 v2 v3 v4 v5 : Value} {n : Nat} {z0 z1 z2 : Nat → Int} {b3 b4 b5 : Nat → Bool} (h : In6 w v0 v1 v2 v3 v4 v5 n n n n n n z0 z1 z2 b3 b4 b5) : Six w v0 v1 v2 v3 v4 v5 (mkR n z0 z1 z2 b3 b4 b5) := by
  obtain ⟨r0, r1, r2, r3, r4, r5⟩ := h
  refine ⟨?_, ?_, ?_, ?_, ?_, ?_⟩ <;> (unfold mkR; rw [List.map_map])
  · exact r0
  · exact r1
  · exact r2
  · exact r3
  · exact r4
  · exact r5

/-- zzReqsWellFormed at rows of one length. -/
theorem wf_mk (w : World) (a0 a1 a2 a3 a4 a5 : Option Addr) (n c0 c1 c2 c3 c4 c5 : Nat) (arr lost : Int) (z0 z1 z2 : Nat → Int) (b3 b4 b5 : Nat → Bool) (hn : n ≤ 1048576)
    (h : In6 w (.slice a0 n c0) (.slice a1 n c1) (.slice a2 n c2) (.slice a3 n c3) (.slice a4 n c4) (.slice a5 n c5) n n n n n n z0 z1 z2 b3 b4 b5) :
    Calls Try.prog 6 #[.slice a0 n c0, .slice a1 n c1, .slice a2 n c2, .slice a3 n c3, .slice a4 n c4, .slice a5 n c5, .int .i64 arr, .int .i64 lost] w (BoolEnd w ((cntA (mkR n z0 z1 z2 b3 b4 b5) : Int) = arr)) := by
  have := wf_any w a0 a1 a2 n n n c0 c1 c2 (.slice a3 n c3) (.slice a4 n c4) (.slice a5 n c5) ((List.range n).map b3) ((List.range n).map b4) ((List.range n).map b5) arr lost hn
    (by rw [List.map_map]; exact h.r3) (by rw [List.map_map]; exact h.r4) (by rw [List.map_map]; exact h.r5)
  refine this.mono ?_
  rintro e w' ⟨b, he, hb, hw⟩
  refine ⟨b, he, fun h => ?_, hw⟩
  rw [cntA_mk]
  exact (hb h).ca

theorem top3 (w : World) (a0 a1 a2 a3 a4 a5 : Option Addr) (n0 n1 n2 n3 n4 n5 c0 c1 c2 c3 c4 c5 : Nat) (base arr ov lost : Int) (z0 z1 z2 : Nat → Int) (b3 b4 b5 : Nat → Bool) (hbase : -9223372036854775808 ≤ base ∧ base ≤ 9223372036854775807)
    (h : In6 w (.slice a0 n0 c0) (.slice a1 n1 c1) (.slice a2 n2 c2) (.slice a3 n3 c3) (.slice a4 n4 c4) (.slice a5 n5 c5) n0 n1 n2 n3 n4 n5 z0 z1 z2 b3 b4 b5) :
    Calls Try.prog 3 #[.slice a0 n0 c0, .slice a1 n1 c1, .slice a2 n2 c2, .slice a3 n3 c3, .slice a4 n4 c4, .slice a5 n5 c5, .int .i64 base, .int .i64 arr, .int .i64 ov, .int .i64 lost] w
      fun e w' => e = .returned (.bool true) ∧ Below w.heap.size w w' := by
  by_cases h1 : n0 + n1 + n2 + n3 + n4 + n5 ≤ 1048576
  · by_cases h2 : 4 * n0 + 4 * n1 + 8 * n2 + n3 + n4 + n5 ≤ 1048576
    · by_cases h3 : n1 = n0 ∧ n2 = n0 ∧ n3 = n0 ∧ n4 = n0 ∧ n5 = n0
      · obtain ⟨e1, e2, e3, e4, e5⟩ := h3
        subst e1 e2 e3 e4 e5
        exact top3_eq w a0 a1 a2 a3 a4 a5 _ c0 c1 c2 c3 c4 c5 base arr ov lost (mkR n5 z0 z1 z2 b3 b4 b5) (mk_len _ _ _ _ _ _ _) h.six (by omega) hbase (wf_mk w a0 a1 a2 a3 a4 a5 n5 c0 c1 c2 c3 c4 c5 arr lost z0 z1 z2 b3 b4 b5 (by omega) h)
      · exact top3_ne w a0 a1 a2 a3 a4 a5 n0 n1 n2 n3 n4 n5 c0 c1 c2 c3 c4 c5 base arr ov lost h1 h2 h3
    · exact top3_heavy w a0 a1 a2 a3 a4 a5 n0 n1 n2 n3 n4 n5 c0 c1 c2 c3 c4 c5 base arr ov lost h1 h2
  · exact top3_big w a0 a1 a2 a3 a4 a5 n0 n1 n2 n3 n4 n5 c0 c1 c2 c3 c4 c5 base arr ov lost h1

end Go.Proofs.Qxb6608625a
