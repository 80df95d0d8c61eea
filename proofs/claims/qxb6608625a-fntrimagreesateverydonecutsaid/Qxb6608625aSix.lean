import Derived.Test.Qxb6608625aLaw
import Derived.Deep.Grids
/-
  Six rows that came in.
-/
namespace Go.Proofs.Qxb6608625a
open Go.RowKit
set_option linter.unusedVariables false

/-- A slice that came in, its cells by their index. -/
theorem row_of {w : World} {a : Addr} {len cap : Nat} {V : Nat → Value} (hl : len ≤ cap) (h : ∀ i, i < cap → w.cell? (a.add i) = some (V i)) : Row w (.slice (some a) len cap) ((List.range len).map V) := by
  by_cases h0 : len = 0
  · subst h0
    exact .inl ⟨rfl, _, _, rfl⟩
  · obtain ⟨g, o, spot⟩ := a
    have hspot : spot = none := by simpa [Addr.add] using World.cell?_spot (h 0 (by omega))
    subst hspot
    refine .inr ⟨g, o, cap, by simp, by simpa using hl, fun j hj => ?_⟩
    have hj' : j < len := by simpa using hj
    have := h j (by omega)
    rw [Go.WideShapes.add_plain] at this
    rw [this]
    simp

/-- The requests that six rows of one length spell. -/
def mkR (n : Nat) (z0 z1 z2 : Nat → Int) (b3 b4 b5 : Nat → Bool) : List Rq := (List.range n).map fun j => ⟨z0 j, z1 j, z2 j, b3 j, b4 j, b5 j⟩
theorem mk_len (n : Nat) (z0 z1 z2 : Nat → Int) (b3 b4 b5 : Nat → Bool) : (mkR n z0 z1 z2 b3 b4 b5).length = n := by simp [mkR]

theorem cntA_mk (n : Nat) (z0 z1 z2 : Nat → Int) (b3 b4 b5 : Nat → Bool) : cntA (mkR n z0 z1 z2 b3 b4 b5) = cntT ((List.range n).map b4) := by
  unfold cntA cntT mkR
  rw [List.filter_map, List.filter_map, List.length_map, List.length_map]
  rfl

/-- Six rows that came in. -/
structure In6 (w : World) (v0 v1 v2 v3 v4 v5 : Value) (n0 n1 n2 n3 n4 n5 : Nat) (z0 z1 z2 : Nat → Int) (b3 b4 b5 : Nat → Bool) : Prop where
  r0 : Row w v0 ((List.range n0).map fun j => .int .u32 (z0 j))
  r1 : Row w v1 ((List.range n1).map fun j => .int .u32 (z1 j))
  r2 : Row w v2 ((List.range n2).map fun j => .int .i64 (z2 j))
  r3 : Row w v3 ((List.range n3).map fun j => .bool (b3 j))
  r4 : Row w v4 ((List.range n4).map fun j => .bool (b4 j))
  r5 : Row w v5 ((List.range n5).map fun j => .bool (b5 j))

theorem In6.six {w : World} {v0 v1 v2 v3 v4 v5 : Value} {n : Nat} {z0 z1 z2 : Nat → Int} {b3 b4 b5 : Nat → Bool} (h : In6 w v0 v1 v2 v3 v4 v5 n n n n n n z0 z1 z2 b3 b4 b5) : Six w v0 v1 v2 v3 v4 v5 (mkR n z0 z1 z2 b3 b4 b5) := by
  obtain ⟨r0, r1, r2, r3, r4, r5⟩ := h
  refine ⟨?_, ?_, ?_, ?_, ?_, ?_⟩ <;> (unfold mkR; rw [List.map_map])
  · exact r0
  · exact r1
  · exact r2
  · exact r3
  · exact r4
  · exact r5

/-- zzReqsWellFormed at rows of one length. -/
theorem wf_mk (w : World) (a0 a1 a2 a3 a4 a5 : Option Addr) (n c0 c1 c2 c3 c4 c5 : Nat) (arr lost : Int) (z0 z1 z2 : Nat → Int) (b3 b4 b5 : Nat → Bool) (hn : n ≤ 1048576)
    (h : In6 w (.slice a0 n c0) (.slice a1 n c1) (.slice a2 n c2) (.slice a3 n c3) (.slice a4 n c4) (.slice a5 n c5) n n n n n n z0 z1 z2 b3 b4 b5) :
    Calls Try.prog 6 #[.slice a0 n c0, .slice a1 n c1, .slice a2 n c2, .slice a3 n c3, .slice a4 n c4, .slice a5 n c5, .int .i64 arr, .int .i64 lost] w (BoolEnd w ((cntA (mkR n z0 z1 z2 b3 b4 b5) : Int) = arr)) := by
  have := wf_any w a0 a1 a2 n n n c0 c1 c2 (.slice a3 n c3) (.slice a4 n c4) (.slice a5 n c5) ((List.range n).map b3) ((List.range n).map b4) ((List.range n).map b5) arr lost hn
    (by rw [List.map_map]; exact h.r3) (by rw [List.map_map]; exact h.r4) (by rw [List.map_map]; exact h.r5)
  refine this.mono ?_
  rintro e w' ⟨b, he, hb, hw⟩
  refine ⟨b, he, fun h => ?_, hw⟩
  rw [cntA_mk]
  exact (hb h).ca

end Go.Proofs.Qxb6608625a
