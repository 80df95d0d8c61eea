import Derived.Test.Qxb6608511aMtl
/-
  The append to the trail, as one step of a region that draws.
-/
namespace Go.Proofs.Qxb6608511a
open Go.RowKit
set_option linter.unusedVariables false

theorem info3 : (Try.prog.info? 3).map (fun i => (i.zero, i.size, i.bytes)) = some (some (.int .i64 0), 1, 8) := by kernel_rfl

theorem run_trail (w : World) (ty : TypeId) (A c cap : Nat) (xs : List Value) (hown : w.ownsRow 0 3 1 (.slice (some ⟨A, 0, none⟩) c cap) c xs) (ad : Addr) (y : Value) (hy : w.cell? ad = some y) (h1 : y.oneCell' = true) (hb : c + 1 ≤ 8192) :
    ∃ A' cap' xs' w', (Builtin.append_ #[26, 26] ty #[.slice (some ⟨A, 0, none⟩) c cap, .slice (some ad) 1 1]).run Try.prog w = .ok (.slice (some ⟨A', 0, none⟩) (c + 1) cap') w' ∧ w'.ownsRow 0 3 1 (.slice (some ⟨A', 0, none⟩) (c + 1) cap') (c + 1) xs' ∧ w.grownBy w' (some A) ∧ (A' = A ∨ w.heap.size ≤ A') := by
  cases hi : Try.prog.info? 3 with
  | none => have := info3; rw [hi] at this; cases this
  | some i =>
    have e := info3
    rw [hi] at e
    simp only [Option.map_some, Option.some.injEq, Prod.mk.injEq] at e
    obtain ⟨e0, e1, e2⟩ := e
    have hnews : ∀ j u, [y][j]? = some u → w.cell? (ad.add j) = some u := by
      intro j u h
      cases j with
      | zero =>
        simp at h
        subst h
        have : ad.add 0 = ad := by cases ad; simp [Addr.add]
        rw [this]; exact hy
      | succ j => simp at h
    by_cases hroom : c + 1 ≤ cap
    · obtain ⟨w', r1, r2, r3⟩ := run_append_fits (P := Try.prog) (w := w) 0 26 ty 3 i 1 Try.underlying26 hi e1 A c cap xs hown ad 1 1 [y] rfl hnews (by simp [h1]) hroom
      exact ⟨A, cap, _, w', r1, r2, r3, .inl rfl⟩
    · have hcells := fun j u h => hown.cells (g := A) rfl j u h
      obtain ⟨v', w', r1, r2, r3⟩ := run_append_arg_grows (P := Try.prog) (w := w) 26 ty 3 i _ 1 8 Try.underlying26 hi e0 e1 e2 rfl (by decide) ⟨A, 0, none⟩ c cap xs hown.1 hcells ad 1 1 [y] rfl hnews (by omega) (by unfold maxLen; omega) (by omega)
      rcases r2.2 with ⟨_, h0⟩ | ⟨g, cap', cur, rfl, hg, h4⟩
      · omega
      · refine ⟨g, cap', xs ++ [y], w', r1, ⟨r2.1, .inr ⟨g, cap', cur, rfl, Nat.zero_le _, h4⟩⟩, ⟨r3.os, r3.tape, r3.output, r3.size, fun k hk _ => r3.block k hk (by simp)⟩, .inr hg⟩

theorem step_trail {ops : Array Oper} {o : Oper} {a : Act} {w : World} {K : Act → World → Prop} {Q : Exit → Act → World → Prop} {E : Prop}
    (hg : o.guard = none) (s x : Operand) (hop : o.op = Op.call { callee := Callee.builtin Builtin.append, args := #[s, x], argTypes := #[26, 26] })
    (A c cap : Nat) (xs : List Value) (hs : a.eval s = .slice (some ⟨A, 0, none⟩) c cap) (hown : w.ownsRow 0 3 1 (.slice (some ⟨A, 0, none⟩) c cap) c xs)
    (ad : Addr) (y : Value) (hx : a.eval x = .slice (some ad) 1 1) (hy : w.cell? ad = some y) (h1 : y.oneCell' = true) (hb : c + 1 ≤ 8192)
    (hK : ∀ A' cap' xs' w', w'.ownsRow 0 3 1 (.slice (some ⟨A', 0, none⟩) (c + 1) cap') (c + 1) xs' → w.grownBy w' (some A) → (A' = A ∨ w.heap.size ≤ A') → K (a.put o.dst (.slice (some ⟨A', 0, none⟩) (c + 1) cap')) w') :
    if Region.wanted o (yielded ops a.tmps) = true then Oper.wp Try.prog o a w K Q else E := by
  have hw : Region.wanted o (yielded ops a.tmps) = true := by simp [Region.wanted, hg]
  rw [if_pos hw]
  obtain ⟨A', cap', xs', w', hrun, r1, r2, r3⟩ := run_trail w o.type A c cap xs hown ad y hy h1 hb
  unfold Oper.wp
  simp [execOp, hop, resolve, invoke, builtin, hs, hx, hrun, Result.andThen]
  exact hK A' cap' xs' w' r1 r2 r3

end Go.Proofs.Qxb6608511a
