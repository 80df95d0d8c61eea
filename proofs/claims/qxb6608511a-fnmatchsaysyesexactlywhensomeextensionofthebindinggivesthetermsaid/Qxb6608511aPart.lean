import Derived.Test.Qxb6608511aAcc
/-
  A row of terms that is being filled.
-/
namespace Go.Proofs.Qxb6608511a
open Go.RowKit
set_option linter.unusedVariables false

/-- A row of n terms at block M: the first i read as trees, the others' cells are there; none is frozen. -/
structure Part (w : World) (M n i : Nat) (P : Nat → Prop) (d : Nat) (f : Nat → Tm) : Prop where
  done : ∀ j, j < i → ∃ u, Four w M (j * 4) u ∧ Rep w P d (f j) u
  there : ∀ k, k < n * 4 → ∃ v, w.cell? ⟨M, k, none⟩ = some v
  free : ∀ k, w.frozen? ⟨M, k, none⟩ = false

theorem Part.carry {w w' : World} {M n i : Nat} {P : Nat → Prop} {d : Nat} {f : Nat → Tm} (h : Part w M n i P d f) (hM : M < w.heap.size) (hb : Below w.heap.size w w') : Part w' M n i P d f := by
  refine ⟨fun j hj => ?_, fun k hk => ?_, fun k => ?_⟩
  · obtain ⟨u, hf, hr⟩ := h.done j hj
    exact ⟨u, hf.carry (hb.block M hM), hr.below hb⟩
  · obtain ⟨v, hv⟩ := h.there k hk
    exact ⟨v, by rw [hb.cell (p := ⟨M, k, none⟩) hM, hv]⟩
  · rw [hb.frozen (p := ⟨M, k, none⟩) hM]; exact h.free k

/-- Four cells written. -/
def put4 (w : World) (M o : Nat) (x0 x1 x2 x3 : Value) : World := (((w.setCell ⟨M, o, none⟩ x0).setCell ⟨M, o + 1, none⟩ x1).setCell ⟨M, o + 2, none⟩ x2).setCell ⟨M, o + 3, none⟩ x3

theorem put4_block {w : World} {M o : Nat} {x0 x1 x2 x3 : Value} {g : Nat} (h : g ≠ M) : (put4 w M o x0 x1 x2 x3).heap[g]? = w.heap[g]? := by
  unfold put4
  rw [Below.heap_setCell _ _ _ _ h, Below.heap_setCell _ _ _ _ h, Below.heap_setCell _ _ _ _ h, Below.heap_setCell _ _ _ _ h]

theorem set_other {w : World} {M o k : Nat} {v : Value} (h : o ≠ k) : (w.setCell ⟨M, o, none⟩ v).cell? ⟨M, k, none⟩ = w.cell? ⟨M, k, none⟩ := by
  first
    | exact World.cell?_setCell_other _ _ (fun e => h (by injection e))
    | exact World.cell?_setCell_other _ _ _ (fun e => h (by injection e))
    | exact World.cell?_setCell_other _ _ _ _ (fun e => h (by injection e))
theorem put4_out {w : World} {M o : Nat} {x0 x1 x2 x3 : Value} {k : Nat} (h : k < o ∨ o + 4 ≤ k) : (put4 w M o x0 x1 x2 x3).cell? ⟨M, k, none⟩ = w.cell? ⟨M, k, none⟩ := by
  unfold put4
  rw [set_other (by omega), set_other (by omega), set_other (by omega), set_other (by omega)]

theorem set_same {w : World} {M o : Nat} {v x : Value} (h : w.cell? ⟨M, o, none⟩ = some x) : (w.setCell ⟨M, o, none⟩ v).cell? ⟨M, o, none⟩ = some v := World.cell?_setCell_same' _ _ _ (by rw [h]; rfl)

theorem put4_in {w : World} {M o : Nat} {x0 x1 x2 x3 y0 y1 y2 y3 : Value} (h0 : w.cell? ⟨M, o, none⟩ = some y0) (h1 : w.cell? ⟨M, o + 1, none⟩ = some y1) (h2 : w.cell? ⟨M, o + 2, none⟩ = some y2) (h3 : w.cell? ⟨M, o + 3, none⟩ = some y3) :
    Four (put4 w M o x0 x1 x2 x3) M o (.agg #[x0, x1, x2, x3]) := by
  unfold put4
  refine ⟨x0, x1, x2, x3, rfl, ?_, ?_, ?_, ?_⟩
  · rw [set_other (by omega), set_other (by omega), set_other (by omega)]; exact set_same h0
  · rw [set_other (by omega), set_other (by omega)]; exact set_same (by rw [set_other (by omega)]; exact h1)
  · rw [set_other (by omega)]; exact set_same (by rw [set_other (by omega), set_other (by omega)]; exact h2)
  · exact set_same (by rw [set_other (by omega), set_other (by omega), set_other (by omega)]; exact h3)

theorem set_frozen {w : World} {M o k : Nat} {v : Value} : (w.setCell ⟨M, o, none⟩ v).frozen? ⟨M, k, none⟩ = w.frozen? ⟨M, k, none⟩ := World.frozen?_setCells M [v] o w ⟨M, k, none⟩
theorem put4_frozen {w : World} {M o k : Nat} {x0 x1 x2 x3 : Value} : (put4 w M o x0 x1 x2 x3).frozen? ⟨M, k, none⟩ = w.frozen? ⟨M, k, none⟩ := by
  unfold put4
  rw [set_frozen, set_frozen, set_frozen, set_frozen]

/-- One more term laid. -/
theorem Part.put {w : World} {M n i : Nat} {P : Nat → Prop} {d : Nat} {f : Nat → Tm} {x0 x1 x2 x3 : Value} (h : Part w M n i P d f) (hi : i < n) (hM : ¬ P M) (hr : Rep w P d (f i) (.agg #[x0, x1, x2, x3])) :
    Part (put4 w M (i * 4) x0 x1 x2 x3) M n (i + 1) P d f := by
  have hk : ∀ {t : Tm} {v : Value}, Rep w P d t v → Rep (put4 w M (i * 4) x0 x1 x2 x3) P d t v := fun r => r.carry fun g hg _ => put4_block (fun e : g = M => hM (by rw [← e]; exact hg))
  obtain ⟨y0, h0⟩ := h.there (i * 4) (by omega)
  obtain ⟨y1, h1⟩ := h.there (i * 4 + 1) (by omega)
  obtain ⟨y2, h2⟩ := h.there (i * 4 + 2) (by omega)
  obtain ⟨y3, h3⟩ := h.there (i * 4 + 3) (by omega)
  have h4 := put4_in (x0 := x0) (x1 := x1) (x2 := x2) (x3 := x3) h0 h1 h2 h3
  refine ⟨fun j hj => ?_, fun k hk' => ?_, fun k => by rw [put4_frozen]; exact h.free k⟩
  · by_cases e : j = i
    · subst e
      exact ⟨_, h4, hk hr⟩
    · obtain ⟨u, hf, hr'⟩ := h.done j (by omega)
      obtain ⟨z0, z1, z2, z3, rfl, c0, c1, c2, c3⟩ := hf.ex
      exact ⟨_, ⟨z0, z1, z2, z3, rfl, by rw [put4_out (by omega)]; exact c0, by rw [put4_out (by omega)]; exact c1, by rw [put4_out (by omega)]; exact c2, by rw [put4_out (by omega)]; exact c3⟩, hk hr'⟩
  · by_cases e : k < i * 4 ∨ i * 4 + 4 ≤ k
    · obtain ⟨v, hv⟩ := h.there k hk'
      exact ⟨v, by rw [put4_out e]; exact hv⟩
    · obtain ⟨z0, z1, z2, z3, _, c0, c1, c2, c3⟩ := h4.ex
      obtain rfl | rfl | rfl | rfl : k = i * 4 ∨ k = i * 4 + 1 ∨ k = i * 4 + 2 ∨ k = i * 4 + 3 := by omega
      · exact ⟨_, c0⟩
      · exact ⟨_, c1⟩
      · exact ⟨_, c2⟩
      · exact ⟨_, c3⟩

end Go.Proofs.Qxb6608511a
