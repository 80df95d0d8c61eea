import Derived.Test.Qxb6608511aLast
import Derived.Test.Qxb6608511aEqual
import Derived.Deep.RegionLaw
import Derived.ArgAppend
/-
  What match does, with no Go in sight; the trail and its append.
-/
namespace Go.Proofs.Qxb6608511a
open Go.RowKit
set_option linter.unusedVariables false

theorem sb_var {d : Nat} {τ : Nat → Tm} {p : Tm} {m : Nat} (hk : p.k = 3) (hm : p.n = m) : sbT (d + 1) τ p = τ m := by
  show (if p.k = 3 then τ p.n.toNat else (⟨p.k, p.s, p.n, p.ts.map (sbT d τ)⟩ : Tm)) = _
  rw [if_pos hk, hm]; rfl
theorem sb_node {d : Nat} {τ : Nat → Tm} {p : Tm} (hk : p.k ≠ 3) : sbT (d + 1) τ p = ⟨p.k, p.s, p.n, p.ts.map (sbT d τ)⟩ := by
  show (if p.k = 3 then τ p.n.toNat else (⟨p.k, p.s, p.n, p.ts.map (sbT d τ)⟩ : Tm)) = _
  rw [if_neg hk]
theorem sb_leaf {d : Nat} {τ : Nat → Tm} {p : Tm} (hk : p.k ≠ 3) (h : p.ts.length = 0) : sbT (d + 1) τ p = p := by
  rw [sb_node hk]
  have e : p.ts = [] := List.eq_nil_of_length_eq_zero h
  exact Tm.ext' rfl rfl rfl (by simp [e])

/-- A bound variable. -/
theorem MT.bound {d D : Nat} {L : Nat → Tm} {p q : Tm} {m : Nat} {s : Prop} (hk : p.k = 3) (hm : p.n = m) (hl : (L m).k ≠ 3) (hf : fit D (L m)) (hs : s) : MT (d + 1) L p q (eqT D (L m) q) L s := by
  refine ⟨Ext.refl _, fun h => ?_, fun τ h1 h2 => ?_, fun _ => ⟨rfl, hs⟩⟩
  · refine ⟨⟨fun _ => by rw [hm]; exact hl, fun e => absurd hk e⟩, ?_⟩
    rw [sb_var hk hm]
    exact (eqT_iff hf q).1 h
  · refine ⟨(eqT_iff hf q).2 ?_, h1⟩
    rw [sb_var hk hm, h1 m hl] at h2
    exact h2
/-- A free variable. -/
theorem MT.free {d : Nat} {L : Nat → Tm} {p q : Tm} {m : Nat} {s : Prop} (hk : p.k = 3) (hm : p.n = m) (hl : (L m).k = 3) (hq : q.k ≠ 3) : MT (d + 1) L p q true (upd L m q) s := by
  refine ⟨fun j hj => upd_other _ _ (fun e => hj (by rw [e]; exact hl)), fun _ => ?_, fun τ h1 h2 => ⟨rfl, fun j hj => ?_⟩, fun h => ?_⟩
  · refine ⟨⟨fun _ => by rw [hm]; show (upd L m q m).k ≠ 3; rw [upd_same]; exact hq, fun e => absurd hk e⟩, ?_⟩
    rw [sb_var hk hm, upd_same]
  · by_cases e : j = m
    · subst e
      rw [upd_same, ← h2, sb_var hk hm]
    · rw [upd_other _ _ e] at hj ⊢
      exact h1 j hj
  · have := h.1 hk
    rw [hm] at this
    exact absurd hl this
/-- A constant or a number. -/
theorem MT.leaf {d D : Nat} {L : Nat → Tm} {p q : Tm} {s : Prop} (hk : p.k ≠ 3) (h0 : p.ts.length = 0) (hf : fit D p) (hs : s) : MT (d + 1) L p q (eqT D p q) L s := by
  refine ⟨Ext.refl _, fun h => ?_, fun τ h1 h2 => ?_, fun _ => ⟨rfl, hs⟩⟩
  · refine ⟨⟨fun e => absurd e hk, fun _ i hi => by omega⟩, ?_⟩
    rw [sb_leaf hk h0]
    exact (eqT_iff hf q).1 h
  · refine ⟨(eqT_iff hf q).2 ?_, h1⟩
    rw [sb_leaf hk h0] at h2
    exact h2
/-- A compound term against another. -/
theorem MT.other {d : Nat} {L : Nat → Tm} {p q : Tm} {s : Prop} (hk : p.k = 2) (h : ¬ (q.k = 2 ∧ q.s = p.s ∧ q.ts.length = p.ts.length)) (hs : s) : MT (d + 1) L p q false L s := by
  refine ⟨Ext.refl _, fun h => (by cases h), fun τ h1 h2 => ?_, fun _ => ⟨rfl, hs⟩⟩
  rw [sb_node (by omega)] at h2
  subst h2
  exact absurd ⟨hk, rfl, by simp⟩ h

/-- The first i children matched. -/
structure MTs (d : Nat) (L : Nat → Tm) (p q : Tm) (L' : Nat → Tm) (i : Nat) (same : Prop) : Prop where
  ext : Ext L L'
  yes : ∀ j (h1 : j < p.ts.length) (h2 : j < q.ts.length), j < i → onV d (fun v => (L' v).k ≠ 3) p.ts[j] ∧ sbT d L' p.ts[j] = q.ts[j]
  all : ∀ τ, Ext L τ → sbT (d + 1) τ p = q → Ext L' τ
  stay : onV (d + 1) (fun v => (L v).k ≠ 3) p → L' = L ∧ same
theorem MTs.zero {d : Nat} {L : Nat → Tm} {p q : Tm} {s : Prop} (hs : s) : MTs d L p q L 0 s := ⟨Ext.refl _, fun j _ _ h => absurd h (Nat.not_lt_zero _), fun τ h _ => h, fun _ => ⟨rfl, hs⟩⟩
theorem MTs.step {d : Nat} {L L' L2 : Nat → Tm} {p q : Tm} {i : Nat} {s s' s2 : Prop} (h : MTs d L p q L' i s) (hk : p.k ≠ 3) (h1 : i < p.ts.length) (h2 : i < q.ts.length) (k : MT d L' p.ts[i] q.ts[i] true L2 s') (hs : s → s' → s2) : MTs d L p q L2 (i + 1) s2 := by
  refine ⟨h.ext.trans k.ext, fun j j1 j2 hj => ?_, fun τ e1 e2 => ?_, fun hv => ?_⟩
  · by_cases e : j = i
    · subst e
      exact k.yes rfl
    · obtain ⟨a1, a2⟩ := h.yes j j1 j2 (by omega)
      obtain ⟨b1, b2⟩ := yes_ext k.ext a1
      exact ⟨b1, b2.trans a2⟩
  · exact (k.all τ (h.all τ e1 e2) ((kids_len hk e2).2 i h1 h2)).2
  · obtain ⟨a1, a2⟩ := h.stay hv
    obtain ⟨b1, b2⟩ := k.stay (by rw [a1]; exact hv.2 hk i h1)
    exact ⟨b1.trans a1, hs a2 b2⟩
theorem MTs.halts {d : Nat} {L L' L2 : Nat → Tm} {p q : Tm} {i : Nat} {s s' s2 : Prop} (h : MTs d L p q L' i s) (hk : p.k ≠ 3) (h1 : i < p.ts.length) (h2 : i < q.ts.length) (k : MT d L' p.ts[i] q.ts[i] false L2 s') (hs : s → s' → s2) : MT (d + 1) L p q false L2 s2 := by
  refine ⟨h.ext.trans k.ext, fun h => (by cases h), fun τ e1 e2 => ?_, fun hv => ?_⟩
  · have := (k.all τ (h.all τ e1 e2) ((kids_len hk e2).2 i h1 h2)).1
    cases this
  · obtain ⟨a1, a2⟩ := h.stay hv
    obtain ⟨b1, b2⟩ := k.stay (by rw [a1]; exact hv.2 hk i h1)
    exact ⟨b1.trans a1, hs a2 b2⟩
theorem MTs.done {d : Nat} {L L' : Nat → Tm} {p q : Tm} {s : Prop} (h : MTs d L p q L' p.ts.length s) (hk : p.k ≠ 3) (e0 : q.k = p.k) (e1 : q.s = p.s) (e2 : q.n = p.n) (e3 : q.ts.length = p.ts.length) : MT (d + 1) L p q true L' s := by
  refine ⟨h.ext, fun _ => ⟨⟨fun e => absurd e hk, fun _ i hi => (h.yes i hi (by omega) hi).1⟩, ?_⟩, fun τ a b => ⟨rfl, h.all τ a b⟩, h.stay⟩
  rw [sb_node hk]
  refine Tm.ext' e0.symm e1.symm e2.symm ?_
  refine List.ext_getElem (by simp [e3]) fun i i1 i2 => ?_
  simp only [List.length_map] at i1
  simp only [List.getElem_map]
  exact (h.yes i i1 i2 i1).2

/-- The trail: its variable at block T, its array at block A. -/
structure Tr (w : World) (T A c : Nat) : Prop where
  ex : ∃ cap xs, w.cell? ⟨T, 0, none⟩ = some (.slice (some ⟨A, 0, none⟩) c cap) ∧ w.ownsRow 0 3 1 (.slice (some ⟨A, 0, none⟩) c cap) c xs
  free : w.frozen? ⟨T, 0, none⟩ = false
theorem Tr.but {X : Nat → Prop} {w w' : World} {T A c : Nat} (h : Tr w T A c) (hb : But X w w') (hT : ¬ X T) (hA : ¬ X A) : Tr w' T A c := by
  obtain ⟨cap, xs, h1, h2⟩ := h.ex
  have lt := cell_lt h1
  refine ⟨⟨cap, xs, by rw [hb.cell (p := ⟨T, 0, none⟩) lt hT]; exact h1, ?_⟩, by rw [hb.frozen (p := ⟨T, 0, none⟩) lt hT]; exact h.free⟩
  refine ⟨h2.1, ?_⟩
  rcases h2.2 with ⟨e, _⟩ | ⟨g, cap', cur, e, h3, h4, h5⟩
  · cases e
  · simp only [Value.slice.injEq, Option.some.injEq, Addr.mk.injEq, and_true, true_and] at e
    obtain ⟨rfl, rfl⟩ := e
    have hlt : A < w.heap.size := by
      by_cases hg : A < w.heap.size
      · exact hg
      · rw [Array.getElem?_eq_none (by omega)] at h4; cases h4
    exact .inr ⟨A, cap, cur, rfl, h3, by rw [hb.block A hlt hA]; exact h4, h5⟩
theorem Tr.lt {w : World} {T A c : Nat} (h : Tr w T A c) : T < w.heap.size ∧ A < w.heap.size := by
  obtain ⟨cap, xs, h1, h2⟩ := h.ex
  refine ⟨cell_lt h1, ?_⟩
  rcases h2.2 with ⟨e, _⟩ | ⟨g, cap', cur, e, h3, h4, h5⟩
  · cases e
  · simp only [Value.slice.injEq, Option.some.injEq, Addr.mk.injEq, and_true, true_and] at e
    obtain ⟨rfl, rfl⟩ := e
    by_cases hg : A < w.heap.size
    · exact hg
    · rw [Array.getElem?_eq_none (by omega)] at h4; cases h4

end Go.Proofs.Qxb6608511a
