import Derived.Test.Qxb6608625aIs
import Derived.Laws.CopyOwn
import Derived.Deep.DeepCutAuto
/-
  The bounds laid by program (5, 12); the copies that the laws make first.
-/
namespace Go.Proofs.Qxb6608625a
open Go.RowKit
set_option linter.unusedVariables false

def Tru (e : Ending) (w w' : World) : Prop := e = .returned (.bool true) ∧ w' = w
def Fal (e : Ending) (w w' : World) : Prop := e = .returned (.bool false) ∧ w' = w

set_option maxHeartbeats 2000000 in
set_option maxRecDepth 100000 in
theorem bytes5 (w : World) (a0 a1 a2 a3 a4 a5 : Option Addr) (n0 c0 n1 c1 n2 c2 n3 c3 n4 c4 n5 c5 : Nat) (x y z t : Int) (h : n0 + n1 + n2 + n3 + n4 + n5 ≤ 1048576) :
    Calls Try.prog 5 #[.slice a0 n0 c0, .slice a1 n1 c1, .slice a2 n2 c2, .slice a3 n3 c3, .slice a4 n4 c4, .slice a5 n5 c5, .int .i64 x, .int .i64 y, .int .i64 z, .int .i64 t] w fun e w' => e = .returned (.bool true) ∧ w' = w := by
  go_enter Try.func5, Try.ntmps5
  go_wp2
  go_ret
  exact ⟨rfl, rfl⟩

set_option maxHeartbeats 4000000 in
set_option maxRecDepth 100000 in
theorem bytes5_no (w : World) (a0 a1 a2 a3 a4 a5 : Option Addr) (n0 c0 n1 c1 n2 c2 n3 c3 n4 c4 n5 c5 : Nat) (x y z t : Int) (h : ¬ n0 + n1 + n2 + n3 + n4 + n5 ≤ 1048576) :
    Calls Try.prog 5 #[.slice a0 n0 c0, .slice a1 n1 c1, .slice a2 n2 c2, .slice a3 n3 c3, .slice a4 n4 c4, .slice a5 n5 c5, .int .i64 x, .int .i64 y, .int .i64 z, .int .i64 t] w fun e w' => e = .returned (.bool false) ∧ w' = w := by
  by_cases h0 : n0 ≤ 1048576
  · by_cases h1 : n1 ≤ 1048576 ∧ n0 + n1 ≤ 1048576
    · obtain ⟨h1, s1⟩ := h1
      by_cases h2 : n2 ≤ 1048576 ∧ n0 + n1 + n2 ≤ 1048576
      · obtain ⟨h2, s2⟩ := h2
        by_cases h3 : n3 ≤ 1048576 ∧ n0 + n1 + n2 + n3 ≤ 1048576
        · obtain ⟨h3, s3⟩ := h3
          by_cases h4 : n4 ≤ 1048576 ∧ n0 + n1 + n2 + n3 + n4 ≤ 1048576
          · obtain ⟨h4, s4⟩ := h4
            by_cases h5 : n5 ≤ 1048576
            · go_enter Try.func5, Try.ntmps5
              go_wp2
              go_ret
              exact ⟨rfl, rfl⟩
            · go_enter Try.func5, Try.ntmps5
              go_wp2
              go_ret
              exact ⟨rfl, rfl⟩
          · by_cases h4' : n4 ≤ 1048576
            all_goals (go_enter Try.func5, Try.ntmps5; go_wp2; go_ret; exact ⟨rfl, rfl⟩)
        · by_cases h3' : n3 ≤ 1048576
          all_goals (go_enter Try.func5, Try.ntmps5; go_wp2; go_ret; exact ⟨rfl, rfl⟩)
      · by_cases h2' : n2 ≤ 1048576
        all_goals (go_enter Try.func5, Try.ntmps5; go_wp2; go_ret; exact ⟨rfl, rfl⟩)
    · by_cases h1' : n1 ≤ 1048576
      all_goals (go_enter Try.func5, Try.ntmps5; go_wp2; go_ret; exact ⟨rfl, rfl⟩)
  · go_enter Try.func5, Try.ntmps5
    go_wp2
    go_ret
    exact ⟨rfl, rfl⟩

set_option maxHeartbeats 2000000 in
set_option maxRecDepth 100000 in
theorem bytes12 (w : World) (a0 a1 a2 a3 a4 a5 : Option Addr) (n0 c0 n1 c1 n2 c2 n3 c3 n4 c4 n5 c5 : Nat) (x y z t u : Int) (h : n0 + n1 + n2 + n3 + n4 + n5 ≤ 1048576) :
    Calls Try.prog 12 #[.slice a0 n0 c0, .slice a1 n1 c1, .slice a2 n2 c2, .slice a3 n3 c3, .slice a4 n4 c4, .slice a5 n5 c5, .int .i64 x, .int .i64 y, .int .i64 z, .int .i64 t, .int .i64 u] w fun e w' => e = .returned (.bool true) ∧ w' = w := by
  go_enter Try.func12, Try.ntmps12
  go_wp2
  go_ret
  exact ⟨rfl, rfl⟩

set_option maxHeartbeats 4000000 in
set_option maxRecDepth 100000 in
theorem bytes12_no (w : World) (a0 a1 a2 a3 a4 a5 : Option Addr) (n0 c0 n1 c1 n2 c2 n3 c3 n4 c4 n5 c5 : Nat) (x y z t u : Int) (h : ¬ n0 + n1 + n2 + n3 + n4 + n5 ≤ 1048576) :
    Calls Try.prog 12 #[.slice a0 n0 c0, .slice a1 n1 c1, .slice a2 n2 c2, .slice a3 n3 c3, .slice a4 n4 c4, .slice a5 n5 c5, .int .i64 x, .int .i64 y, .int .i64 z, .int .i64 t, .int .i64 u] w fun e w' => e = .returned (.bool false) ∧ w' = w := by
  by_cases h0 : n0 ≤ 1048576
  · by_cases h1 : n1 ≤ 1048576 ∧ n0 + n1 ≤ 1048576
    · obtain ⟨h1, s1⟩ := h1
      by_cases h2 : n2 ≤ 1048576 ∧ n0 + n1 + n2 ≤ 1048576
      · obtain ⟨h2, s2⟩ := h2
        by_cases h3 : n3 ≤ 1048576 ∧ n0 + n1 + n2 + n3 ≤ 1048576
        · obtain ⟨h3, s3⟩ := h3
          by_cases h4 : n4 ≤ 1048576 ∧ n0 + n1 + n2 + n3 + n4 ≤ 1048576
          · obtain ⟨h4, s4⟩ := h4
            by_cases h5 : n5 ≤ 1048576
            · go_enter Try.func12, Try.ntmps12
              go_wp2
              go_ret
              exact ⟨rfl, rfl⟩
            · go_enter Try.func12, Try.ntmps12
              go_wp2
              go_ret
              exact ⟨rfl, rfl⟩
          · by_cases h4' : n4 ≤ 1048576
            all_goals (go_enter Try.func12, Try.ntmps12; go_wp2; go_ret; exact ⟨rfl, rfl⟩)
        · by_cases h3' : n3 ≤ 1048576
          all_goals (go_enter Try.func12, Try.ntmps12; go_wp2; go_ret; exact ⟨rfl, rfl⟩)
      · by_cases h2' : n2 ≤ 1048576
        all_goals (go_enter Try.func12, Try.ntmps12; go_wp2; go_ret; exact ⟨rfl, rfl⟩)
    · by_cases h1' : n1 ≤ 1048576
      all_goals (go_enter Try.func12, Try.ntmps12; go_wp2; go_ret; exact ⟨rfl, rfl⟩)
  · go_enter Try.func12, Try.ntmps12
    go_wp2
    go_ret
    exact ⟨rfl, rfl⟩

/-- What a copy reads of its source. -/
theorem Row.src {w : World} {a : Option Addr} {n c : Nat} {xs : List Value} (h : Row w (.slice a n c) xs) : xs.length = n ∧ (0 < xs.length → ∃ ad, a = some ad ∧ ∀ j v, xs[j]? = some v → w.cell? (ad.add j) = some v) := by
  rcases h with ⟨rfl, a', c', h⟩ | ⟨g, o, c', h, _, hc⟩
  · simp only [Value.slice.injEq] at h
    exact ⟨h.2.1.symm, fun h => by simp at h⟩
  · simp only [Value.slice.injEq] at h
    refine ⟨h.2.1.symm, fun _ => ⟨⟨g, o, none⟩, h.1, fun j v hv => ?_⟩⟩
    obtain ⟨hj, rfl⟩ := List.getElem?_eq_some_iff.1 hv
    rw [Go.WideShapes.add_plain]
    exact hc j hj

/-- The row that make and copy leave. -/
theorem Row.copied {w : World} {H n : Nat} {t : TypeId} {cur xs : List Value} (h : w.heap[H]? = some (.cells (splice cur 0 xs).toArray t (0, 0))) (hc : cur.length = n) (hx : xs.length = n) : Row w (.slice (some ⟨H, 0, none⟩) n n) xs := by
  have e : splice cur 0 xs = xs := by
    unfold splice
    rw [List.take_zero, List.nil_append, List.drop_eq_nil_of_le (by omega), List.append_nil]
  rw [e] at h
  refine .inr ⟨H, 0, n, by rw [hx], by omega, fun j hj => ?_⟩
  rw [Nat.zero_add, cell_of_row w H j _ t (0, 0) h]
  simp [hj]

/-- The row that make leaves, whole. -/
theorem made_row {w : World} {base H n : Nat} {e : TypeId} {xs : List Value} (h : w.ownsRow base e 1 (.slice (some ⟨H, 0, none⟩) n n) n xs) : ∃ cur : List Value, w.heap[H]? = some (.cells cur.toArray e (0, 0)) ∧ cur.length = n ∧ base ≤ H := by
  rcases h.2 with ⟨h', _⟩ | ⟨g, cap, cur, h', hb, hg, _, _, hs, _⟩
  · cases h'
  · simp only [Value.slice.injEq, Option.some.injEq, Addr.mk.injEq, and_true, true_and] at h'
    obtain ⟨rfl, rfl⟩ := h'
    exact ⟨cur.toList, by simpa using hg, by simpa using hs, hb⟩

theorem info37 : (Try.prog.info? 37).map (fun i => (i.zero, i.size, i.bytes)) = some (some (.int .u32 0), 1, 4) := by kernel_rfl
theorem info3 : (Try.prog.info? 3).map (fun i => (i.zero, i.size, i.bytes)) = some (some (.int .i64 0), 1, 8) := by kernel_rfl
theorem info4 : (Try.prog.info? 4).map (fun i => (i.zero, i.size, i.bytes)) = some (some (.bool false), 1, 1) := by kernel_rfl
theorem size37 : (Try.prog.info? 37).map (·.size) = some 1 := by kernel_rfl
theorem size3 : (Try.prog.info? 3).map (·.size) = some 1 := by kernel_rfl
theorem size4 : (Try.prog.info? 4).map (·.size) = some 1 := by kernel_rfl

theorem one_I (qs : List Rq) : ∀ v ∈ qs.map fI, v.oneCell' = true := by intro v hv; simp [fI] at hv; obtain ⟨q, _, rfl⟩ := hv; rfl
theorem one_B (qs : List Rq) : ∀ v ∈ qs.map fB, v.oneCell' = true := by intro v hv; simp [fB] at hv; obtain ⟨q, _, rfl⟩ := hv; rfl
theorem one_H (qs : List Rq) : ∀ v ∈ qs.map fH, v.oneCell' = true := by intro v hv; simp [fH] at hv; obtain ⟨q, _, rfl⟩ := hv; rfl
theorem one_D (qs : List Rq) : ∀ v ∈ qs.map fD, v.oneCell' = true := by intro v hv; simp [fD] at hv; obtain ⟨q, _, rfl⟩ := hv; rfl
theorem one_A (qs : List Rq) : ∀ v ∈ qs.map fA, v.oneCell' = true := by intro v hv; simp [fA] at hv; obtain ⟨q, _, rfl⟩ := hv; rfl
theorem one_L (qs : List Rq) : ∀ v ∈ qs.map fL, v.oneCell' = true := by intro v hv; simp [fL] at hv; obtain ⟨q, _, rfl⟩ := hv; rfl

end Go.Proofs.Qxb6608625a
