import Derived.Test.Qxb6608511aRows
import Derived.WalkKit
import Derived.WalkSpells
import Derived.Below
/-
  TERMS AS TREES: what a ZTerm or a Term in memory reads as.
-/
namespace Go.Proofs.Qxb6608511a
open Go.RowKit
set_option linter.unusedVariables false

/-- A term. -/
structure Tm where
  k : Int
  s : ByteArray
  n : Int
  ts : List Tm

theorem Tm.ext' {a b : Tm} (h0 : a.k = b.k) (h1 : a.s = b.s) (h2 : a.n = b.n) (h3 : a.ts = b.ts) : a = b := by
  cases a; cases b; simp_all

/-- The most elements that a slice of terms can have within the reach. -/
def big : Nat := 2932031007402

/-- A term's four cells. -/
def nodeV (t : Tm) (a : Option Addr) (c : Nat) : Value := .agg #[.int .u8 t.k, .string t.s, .int .i64 t.n, .slice a t.ts.length c]

/-- The four cells at an address. -/
structure Four (w : World) (g o : Nat) (v : Value) : Prop where
  ex : ∃ x0 x1 x2 x3, v = .agg #[x0, x1, x2, x3] ∧ w.cell? ⟨g, o, none⟩ = some x0 ∧ w.cell? ⟨g, o + 1, none⟩ = some x1 ∧ w.cell? ⟨g, o + 2, none⟩ = some x2 ∧ w.cell? ⟨g, o + 3, none⟩ = some x3

/-- A value that reads as the tree t, of depth at most d, its rows in blocks of P. -/
def Rep (w : World) (P : Nat → Prop) : Nat → Tm → Value → Prop
  | 0, _, _ => False
  | d + 1, t, v => ∃ a c, v = nodeV t a c ∧ t.ts.length ≤ c ∧ t.ts.length ≤ big ∧ 0 ≤ t.k ∧ t.k ≤ 255 ∧ -9223372036854775808 ≤ t.n ∧ t.n ≤ 9223372036854775807 ∧ t.s.size ≤ 140737488355328 ∧
      (t.ts = [] ∨ ∃ g o, a = some ⟨g, o, none⟩ ∧ P g ∧ ∀ i (hi : i < t.ts.length), ∃ u, Four w g (o + i * 4) u ∧ Rep w P d t.ts[i] u)

theorem Rep.mono {w : World} {P Q : Nat → Prop} (hq : ∀ g, P g → Q g) : ∀ {d : Nat} {t : Tm} {v : Value}, Rep w P d t v → Rep w Q d t v
  | 0, _, _, h => h.elim
  | d + 1, t, v, h => by
    obtain ⟨a, c, e, h1, h2, h3, h4, h5, h6, h7, h8⟩ := h
    refine ⟨a, c, e, h1, h2, h3, h4, h5, h6, h7, ?_⟩
    rcases h8 with h8 | ⟨g, o, e1, hp, hi⟩
    · exact .inl h8
    · refine .inr ⟨g, o, e1, hq g hp, fun i hlt => ?_⟩
      obtain ⟨u, f, r⟩ := hi i hlt
      exact ⟨u, f, Rep.mono hq r⟩

theorem Rep.up {w : World} {P : Nat → Prop} : ∀ {d : Nat} {t : Tm} {v : Value}, Rep w P d t v → Rep w P (d + 1) t v
  | 0, _, _, h => h.elim
  | d + 1, t, v, h => by
    obtain ⟨a, c, e, h1, h2, h3, h4, h5, h6, h7, h8⟩ := h
    refine ⟨a, c, e, h1, h2, h3, h4, h5, h6, h7, ?_⟩
    rcases h8 with h8 | ⟨g, o, e1, hp, hi⟩
    · exact .inl h8
    · refine .inr ⟨g, o, e1, hp, fun i hlt => ?_⟩
      obtain ⟨u, f, r⟩ := hi i hlt
      exact ⟨u, f, Rep.up r⟩

theorem Rep.le {w : World} {P : Nat → Prop} {t : Tm} {v : Value} {d : Nat} (h : Rep w P d t v) : ∀ {d' : Nat}, d ≤ d' → Rep w P d' t v := by
  intro d' hd
  induction hd with
  | refl => exact h
  | step _ ih => exact ih.up

theorem Four.carry {w w' : World} {g o : Nat} {v : Value} (h : Four w g o v) (hb : w'.heap[g]? = w.heap[g]?) : Four w' g o v := by
  obtain ⟨x0, x1, x2, x3, e, c0, c1, c2, c3⟩ := h.ex
  have k : ∀ o, w'.cell? ⟨g, o, none⟩ = w.cell? ⟨g, o, none⟩ := fun o => World.cell?_of_block (w := w) (a := ⟨g, o, none⟩) hb
  exact ⟨x0, x1, x2, x3, e, by rw [k, c0], by rw [k, c1], by rw [k, c2], by rw [k, c3]⟩

theorem cell_lt {w : World} {g o : Nat} {v : Value} (h : w.cell? ⟨g, o, none⟩ = some v) : g < w.heap.size := by
  by_cases hg : g < w.heap.size
  · exact hg
  · exfalso
    have e : w.heap[g]? = none := Array.getElem?_eq_none (by omega)
    simp [World.cell?, e] at h

/-- The reading stands wherever the blocks of P stand. -/
theorem Rep.carry {w w' : World} {P : Nat → Prop} (hk : ∀ g, P g → g < w.heap.size → w'.heap[g]? = w.heap[g]?) : ∀ {d : Nat} {t : Tm} {v : Value}, Rep w P d t v → Rep w' P d t v
  | 0, _, _, h => h.elim
  | d + 1, t, v, h => by
    obtain ⟨a, c, e, h1, h2, h3, h4, h5, h6, h7, h8⟩ := h
    refine ⟨a, c, e, h1, h2, h3, h4, h5, h6, h7, ?_⟩
    rcases h8 with h8 | ⟨g, o, e1, hp, hi⟩
    · exact .inl h8
    · refine .inr ⟨g, o, e1, hp, fun i hlt => ?_⟩
      obtain ⟨u, f, r⟩ := hi i hlt
      have hlt' : g < w.heap.size := by
        obtain ⟨_, _, _, _, _, c0, _⟩ := f.ex
        exact cell_lt c0
      exact ⟨u, f.carry (hk g hp hlt'), Rep.carry hk r⟩

theorem Rep.lt {w : World} {P : Nat → Prop} : ∀ {d : Nat} {t : Tm} {v : Value}, Rep w P d t v → Rep w (fun g => P g ∧ g < w.heap.size) d t v
  | 0, _, _, h => h.elim
  | d + 1, t, v, h => by
    obtain ⟨a, c, e, h1, h2, h3, h4, h5, h6, h7, h8⟩ := h
    refine ⟨a, c, e, h1, h2, h3, h4, h5, h6, h7, ?_⟩
    by_cases h0 : t.ts = []
    · exact .inl h0
    rcases h8 with h8 | ⟨g, o, e1, hp, hi⟩
    · exact .inl h8
    · refine .inr ⟨g, o, e1, ⟨hp, ?_⟩, fun i hlt => ?_⟩
      · have hpos : 0 < t.ts.length := List.length_pos_iff.2 h0
        obtain ⟨u, f, r⟩ := hi 0 hpos
        obtain ⟨_, _, _, _, _, c0, _⟩ := f.ex
        exact cell_lt c0
      · obtain ⟨u, f, r⟩ := hi i hlt
        exact ⟨u, f, Rep.lt r⟩

theorem Rep.below {w w' : World} {P : Nat → Prop} {d : Nat} {t : Tm} {v : Value} (h : Rep w P d t v) (hb : Below w.heap.size w w') : Rep w' P d t v :=
  h.carry fun g _ hg => hb.block g hg

/-- A child, by its four cells. -/
theorem Rep.kid {w : World} {P : Nat → Prop} {d : Nat} {t : Tm} {a : Option Addr} {c : Nat} (h : Rep w P (d + 1) t (nodeV t a c)) {i : Nat} (hi : i < t.ts.length) :
    ∃ g o x0 x1 x2 x3, a = some ⟨g, o, none⟩ ∧ P g ∧ g < w.heap.size ∧ w.cell? ⟨g, o + i * 4, none⟩ = some x0 ∧ w.cell? ⟨g, o + i * 4 + 1, none⟩ = some x1 ∧ w.cell? ⟨g, o + i * 4 + 2, none⟩ = some x2 ∧ w.cell? ⟨g, o + i * 4 + 3, none⟩ = some x3 ∧
      Rep w P d t.ts[i] (.agg #[x0, x1, x2, x3]) := by
  obtain ⟨a', c', e, _, _, _, _, _, _, _, h8⟩ := h
  simp [nodeV] at e
  obtain ⟨rfl, rfl⟩ := e
  rcases h8 with h8 | ⟨g, o, e1, hp, hk⟩
  · rw [h8] at hi; exact absurd hi (Nat.not_lt_zero _)
  · obtain ⟨u, f, r⟩ := hk i hi
    obtain ⟨x0, x1, x2, x3, rfl, c0, c1, c2, c3⟩ := f.ex
    exact ⟨g, o, x0, x1, x2, x3, e1, hp, cell_lt c0, c0, c1, c2, c3, r⟩

/-- A child, its four cells as a term's. -/
theorem Rep.kidV {w : World} {P : Nat → Prop} {d : Nat} {t : Tm} {a : Option Addr} {c : Nat} (h : Rep w P (d + 1) t (nodeV t a c)) {i : Nat} (hi : i < t.ts.length) :
    ∃ q g o b e, t.ts[i] = q ∧ a = some ⟨g, o, none⟩ ∧ P g ∧ g < w.heap.size ∧ w.cell? ⟨g, o + i * 4, none⟩ = some (.int .u8 q.k) ∧ w.cell? ⟨g, o + i * 4 + 1, none⟩ = some (.string q.s) ∧ w.cell? ⟨g, o + i * 4 + 2, none⟩ = some (.int .i64 q.n) ∧ w.cell? ⟨g, o + i * 4 + 3, none⟩ = some (.slice b q.ts.length e) ∧
      Rep w P d q (nodeV q b e) := by
  obtain ⟨g, o, x0, x1, x2, x3, ea, hp, hg, c0, c1, c2, c3, r⟩ := h.kid hi
  obtain ⟨b, e, hv⟩ : ∃ b e, (.agg #[x0, x1, x2, x3] : Value) = nodeV t.ts[i] b e := by
    cases d with
    | zero => exact r.elim
    | succ d => obtain ⟨b, e, hv, _⟩ := r; exact ⟨b, e, hv⟩
  have hv' := hv
  simp [nodeV] at hv'
  obtain ⟨rfl, rfl, rfl, rfl⟩ := hv'
  exact ⟨_, g, o, b, e, rfl, ea, hp, hg, c0, c1, c2, c3, r⟩

/-- A nil row has no element. -/
theorem Rep.nilRow {w : World} {P : Nat → Prop} {d : Nat} {t : Tm} {c : Nat} (h : Rep w P d t (nodeV t none c)) : t.ts = [] := by
  cases d with
  | zero => exact h.elim
  | succ d =>
    cases hl : t.ts with
    | nil => rfl
    | cons x r =>
      obtain ⟨g, o, _, _, _, _, e, _⟩ := h.kid (i := 0) (by rw [hl]; simp)
      cases e

theorem Rep.opn {w : World} {P : Nat → Prop} {d : Nat} {t : Tm} {v : Value} (h : Rep w P (d + 1) t v) : ∃ a c, v = nodeV t a c ∧ t.ts.length ≤ c ∧ t.ts.length ≤ big ∧ 0 ≤ t.k ∧ t.k ≤ 255 ∧ -9223372036854775808 ≤ t.n ∧ t.n ≤ 9223372036854775807 ∧ t.s.size ≤ 140737488355328 := by
  obtain ⟨a, c, e, h1, h2, h3, h4, h5, h6, h7, _⟩ := h
  exact ⟨a, c, e, h1, h2, h3, h4, h5, h6, h7⟩

/-- Behind what a call has boxed. -/
theorem Rep.after {w wr : World} {P : Nat → Prop} {d : Nat} {t : Tm} {v : Value} {o : Obj} (h : Rep w P d t v) (hbel : Below (w.heap.size + 1) (w.alloc o) wr) : Rep wr P d t v :=
  h.carry fun g _ hg => by rw [hbel.block g (by omega)]; exact Below.heap_alloc _ _ _ hg

theorem hid {p : Prop} (h : p) : Hid p := h
theorem bel_start {w wr wz : World} {o : Obj} (h : Below (w.heap.size + 1) (w.alloc o) wr) (h2 : Below w.heap.size wr wz) : Below w.heap.size w wz :=
  (Below.alloc (Below.refl _ _) (Nat.le_refl _) _).trans ((h.mono (Nat.le_succ _)).trans h2)
theorem bel_round {w wr wa : World} {o : Obj} (h : Below (w.heap.size + 1) (w.alloc o) wr) (h2 : Below wr.heap.size wr wa) : Below (w.heap.size + 1) (w.alloc o) wa := by
  have hs := h.size
  simp at hs
  exact h.trans (h2.mono hs)

end Go.Proofs.Qxb6608511a
