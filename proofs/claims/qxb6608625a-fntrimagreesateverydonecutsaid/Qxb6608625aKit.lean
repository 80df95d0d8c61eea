import Derived.Test.Qxb6608625aRows
import Derived.WalkKit
import Derived.WalkSpells
import Derived.Deep.QuietTactic
import Derived.BigQuiet
/-
  Requests, rows of them, and what a request order looks like in memory.
-/
namespace Go.Proofs.Qxb6608625a
open Go.RowKit
set_option linter.unusedVariables false

theorem hid {p : Prop} (h : p) : Hid p := h

/-- One request as data. -/
structure Rq where
  i : Int
  b : Int
  h : Int
  d : Bool
  a : Bool
  l : Bool

/-- How many of them have arrived. -/
def cntA (qs : List Rq) : Nat := (qs.filter (·.a)).length
theorem cntA_append (x y : List Rq) : cntA (x ++ y) = cntA x + cntA y := by simp [cntA]
theorem cntA_le (x : List Rq) : cntA x ≤ x.length := List.length_filter_le _ _
/-- How many done ones stand at the front. -/
def fr (qs : List Rq) : Nat := (qs.takeWhile (·.d)).length
theorem fr_le (qs : List Rq) : fr qs ≤ qs.length := by
  unfold fr
  have := (List.takeWhile_prefix (p := fun q : Rq => q.d) (l := qs)).length_le
  exact this
theorem fr_nil : fr [] = 0 := rfl
theorem fr_yes (q : Rq) (qs : List Rq) (h : q.d = true) : fr (q :: qs) = fr qs + 1 := by simp [fr, h]
theorem fr_no (q : Rq) (qs : List Rq) (h : q.d = false) : fr (q :: qs) = 0 := by simp [fr, h]

theorem wrap_succ (x : Int) (j : Nat) : wrap64 (wrap64 (x + j) + 1) = wrap64 (x + (j + 1 : Nat)) := by unfold wrap64; omega

/-- A request order behind a pointer: the requests qs in block r, the first k of them taken off; the head in block b. -/
structure Ord (w : World) (b r : Nat) (qs : List Rq) (k : Nat) (base arr ov lost : Int) : Prop where
  k_le : k ≤ qs.length
  c0 : ∃ ao, w.cell? ⟨b, 0, none⟩ = some (.slice ao (qs.length - k) (qs.length - k)) ∧ (k < qs.length → ao = some ⟨r, 6 * k, none⟩)
  c1 : w.cell? ⟨b, 1, none⟩ = some (.int .i64 base)
  c2 : w.cell? ⟨b, 2, none⟩ = some (.int .i64 arr)
  c3 : w.cell? ⟨b, 3, none⟩ = some (.int .i64 ov)
  c4 : w.cell? ⟨b, 4, none⟩ = some (.int .i64 lost)
  fz : ∀ j, w.frozen? ⟨b, j, none⟩ = false
  ne : b ≠ r
  qi : ∀ j (hj : j < qs.length), w.cell? ⟨r, 6 * j, none⟩ = some (.int .u32 (qs[j]).i)
  qb : ∀ j (hj : j < qs.length), w.cell? ⟨r, 6 * j + 1, none⟩ = some (.int .u32 (qs[j]).b)
  qh : ∀ j (hj : j < qs.length), w.cell? ⟨r, 6 * j + 2, none⟩ = some (.int .i64 (qs[j]).h)
  qd : ∀ j (hj : j < qs.length), w.cell? ⟨r, 6 * j + 3, none⟩ = some (.bool (qs[j]).d)
  qa : ∀ j (hj : j < qs.length), w.cell? ⟨r, 6 * j + 4, none⟩ = some (.bool (qs[j]).a)
  ql : ∀ j (hj : j < qs.length), w.cell? ⟨r, 6 * j + 5, none⟩ = some (.bool (qs[j]).l)

theorem cellEq {w w' : World} {k o : Nat} (h : w'.heap[k]? = w.heap[k]?) : w'.cell? ⟨k, o, none⟩ = w.cell? ⟨k, o, none⟩ := World.cell?_of_block h
theorem frozenEq {w w' : World} {k o : Nat} (h : w'.heap[k]? = w.heap[k]?) : w'.frozen? ⟨k, o, none⟩ = w.frozen? ⟨k, o, none⟩ := World.frozen?_of_block h

/-- An order stands in every world that agrees on its two blocks. -/
theorem Ord.kept {w w' : World} {b r : Nat} {qs : List Rq} {k : Nat} {base arr ov lost : Int} (h : Ord w b r qs k base arr ov lost) (hb : w'.heap[b]? = w.heap[b]?) (hr : w'.heap[r]? = w.heap[r]?) : Ord w' b r qs k base arr ov lost := by
  obtain ⟨k_le, c0, c1, c2, c3, c4, fz, ne, qi, qb, qh, qd, qa, ql⟩ := h
  refine ⟨k_le, ?_, ?_, ?_, ?_, ?_, fun j => ?_, ne, fun j hj => ?_, fun j hj => ?_, fun j hj => ?_, fun j hj => ?_, fun j hj => ?_, fun j hj => ?_⟩
  · rw [cellEq hb]; exact c0
  · rw [cellEq hb]; exact c1
  · rw [cellEq hb]; exact c2
  · rw [cellEq hb]; exact c3
  · rw [cellEq hb]; exact c4
  · rw [frozenEq hb]; exact fz j
  · rw [cellEq hr]; exact qi j hj
  · rw [cellEq hr]; exact qb j hj
  · rw [cellEq hr]; exact qh j hj
  · rw [cellEq hr]; exact qd j hj
  · rw [cellEq hr]; exact qa j hj
  · rw [cellEq hr]; exact ql j hj

theorem Ord.lt {w : World} {b r : Nat} {qs : List Rq} {k : Nat} {base arr ov lost : Int} (h : Ord w b r qs k base arr ov lost) : b < w.heap.size := World.block_lt_of_cell? _ _ h.c1

end Go.Proofs.Qxb6608625a
