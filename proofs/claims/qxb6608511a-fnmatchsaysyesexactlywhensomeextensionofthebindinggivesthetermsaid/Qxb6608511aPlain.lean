import Derived.Test.Qxb6608511aFits
/-
  Substitution in trees, with no Go in sight; rows that are written in place.
-/
namespace Go.Proofs.Qxb6608511a
open Go.RowKit
set_option linter.unusedVariables false

/-- Outside X the world w' is as w was. -/
structure But (X : Nat → Prop) (w w' : World) : Prop where
  os : w'.os = w.os
  tape : w'.tape = w.tape
  output : w'.output = w.output
  size : w.heap.size ≤ w'.heap.size
  block : ∀ g, g < w.heap.size → ¬ X g → w'.heap[g]? = w.heap[g]?

theorem But.refl (X : Nat → Prop) (w : World) : But X w w := ⟨rfl, rfl, rfl, Nat.le_refl _, fun _ _ _ => rfl⟩
theorem But.trans {X : Nat → Prop} {a b c : World} (h : But X a b) (k : But X b c) : But X a c :=
  ⟨k.os.trans h.os, k.tape.trans h.tape, k.output.trans h.output, Nat.le_trans h.size k.size, fun g hg hx => (k.block g (Nat.lt_of_lt_of_le hg h.size) hx).trans (h.block g hg hx)⟩
/-- The second step may write new blocks of the first's. -/
theorem But.trans2 {X Y : Nat → Prop} {a b c : World} (h : But X a b) (k : But Y b c) (hy : ∀ g, g < a.heap.size → Y g → X g) : But X a c :=
  ⟨k.os.trans h.os, k.tape.trans h.tape, k.output.trans h.output, Nat.le_trans h.size k.size, fun g hg hx => (k.block g (Nat.lt_of_lt_of_le hg h.size) (fun y => hx (hy g hg y))).trans (h.block g hg hx)⟩
theorem But.of_below {X : Nat → Prop} {w w' : World} (h : Below w.heap.size w w') : But X w w' := ⟨h.os, h.tape, h.output, h.size, fun g hg _ => h.block g hg⟩
theorem But.below {X : Nat → Prop} {w w' : World} {B : Nat} (h : But X w w') (hB : B ≤ w.heap.size) (hx : ∀ g, X g → B ≤ g) : Below B w w' :=
  ⟨h.os, h.tape, h.output, h.size, fun g hg => h.block g (Nat.lt_of_lt_of_le hg hB) (fun x => Nat.lt_irrefl _ (Nat.lt_of_lt_of_le hg (hx g x)))⟩
theorem But.cell {X : Nat → Prop} {w w' : World} (h : But X w w') {p : Addr} (hp : p.block < w.heap.size) (hx : ¬ X p.block) : w'.cell? p = w.cell? p := World.cell?_of_block (w := w) (h.block p.block hp hx)
theorem But.frozen {X : Nat → Prop} {w w' : World} (h : But X w w') {p : Addr} (hp : p.block < w.heap.size) (hx : ¬ X p.block) : w'.frozen? p = w.frozen? p := World.frozen?_of_block (w := w) (h.block p.block hp hx)
theorem But.setCell {X : Nat → Prop} {a w : World} (h : But X a w) {p : Addr} (hp : X p.block) (u : Value) : But X a (w.setCell p u) :=
  h.trans ⟨rfl, rfl, rfl, by simp [World.setCell], fun k _ hk => Below.heap_setCell _ _ _ _ (fun e => hk (by rw [e]; exact hp))⟩
theorem But.put4 {X : Nat → Prop} {a w : World} {M o : Nat} {x0 x1 x2 x3 : Value} (h : But X a w) (hM : X M) : But X a (put4 w M o x0 x1 x2 x3) :=
  (((h.setCell (p := ⟨M, o, none⟩) hM _).setCell (p := ⟨M, o + 1, none⟩) hM _).setCell (p := ⟨M, o + 2, none⟩) hM _).setCell (p := ⟨M, o + 3, none⟩) hM _
theorem But.alloc {X : Nat → Prop} {a w : World} (h : But X a w) (o : Obj) : But X a (w.alloc o) := h.trans (But.of_below (bel_one w o))
theorem Rep.but {X P : Nat → Prop} {w w' : World} {d : Nat} {t : Tm} {v : Value} (h : Rep w P d t v) (hb : But X w w') (hx : ∀ g, P g → ¬ X g) : Rep w' P d t v :=
  h.carry fun g hp hg => hb.block g hg (hx g hp)

theorem Part.but {X P : Nat → Prop} {w w' : World} {M n i : Nat} {d : Nat} {f : Nat → Tm} (h : Part w M n i P d f) (hM : M < w.heap.size) (hb : But X w w') (hX : ¬ X M) (hx : ∀ g, P g → ¬ X g) : Part w' M n i P d f := by
  refine ⟨fun j hj => ?_, fun k hk => ?_, fun k => ?_⟩
  · obtain ⟨u, hf, hr⟩ := h.done j hj
    exact ⟨u, hf.carry (hb.block M hM hX), hr.but hb hx⟩
  · obtain ⟨v, hv⟩ := h.there k hk
    exact ⟨v, by rw [hb.cell (p := ⟨M, k, none⟩) hM hX, hv]⟩
  · rw [hb.frozen (p := ⟨M, k, none⟩) hM hX]; exact h.free k

/-- One place of a list turned. -/
def upd {α : Type} (f : Nat → α) (v : Nat) (x : α) : Nat → α := fun j => if j = v then x else f j
theorem upd_same {α : Type} (f : Nat → α) (v : Nat) (x : α) : upd f v x v = x := by simp [upd]
theorem upd_other {α : Type} (f : Nat → α) {v j : Nat} (x : α) (h : j ≠ v) : upd f v x j = f j := by simp [upd, h]

/-- One term of a full row turned. -/
theorem Part.upd {w : World} {M n v : Nat} {P : Nat → Prop} {d : Nat} {f : Nat → Tm} {t : Tm} {x0 x1 x2 x3 : Value} (h : Part w M n n P d f) (hi : v < n) (hM : ¬ P M) (hr : Rep w P d t (.agg #[x0, x1, x2, x3])) :
    Part (put4 w M (v * 4) x0 x1 x2 x3) M n n P d (upd f v t) := by
  have hk : ∀ {t : Tm} {v' : Value}, Rep w P d t v' → Rep (put4 w M (v * 4) x0 x1 x2 x3) P d t v' := fun r => r.carry fun g hg _ => put4_block (fun e : g = M => hM (by rw [← e]; exact hg))
  obtain ⟨y0, h0⟩ := h.there (v * 4) (by omega)
  obtain ⟨y1, h1⟩ := h.there (v * 4 + 1) (by omega)
  obtain ⟨y2, h2⟩ := h.there (v * 4 + 2) (by omega)
  obtain ⟨y3, h3⟩ := h.there (v * 4 + 3) (by omega)
  have h4 := put4_in (x0 := x0) (x1 := x1) (x2 := x2) (x3 := x3) h0 h1 h2 h3
  refine ⟨fun j hj => ?_, fun k hk' => ?_, fun k => by rw [put4_frozen]; exact h.free k⟩
  · by_cases e : j = v
    · subst e
      exact ⟨_, h4, by rw [upd_same]; exact hk hr⟩
    · obtain ⟨u, hf, hr'⟩ := h.done j (by omega)
      obtain ⟨z0, z1, z2, z3, rfl, c0, c1, c2, c3⟩ := hf.ex
      exact ⟨_, ⟨z0, z1, z2, z3, rfl, by rw [put4_out (by omega)]; exact c0, by rw [put4_out (by omega)]; exact c1, by rw [put4_out (by omega)]; exact c2, by rw [put4_out (by omega)]; exact c3⟩, by rw [upd_other _ _ e]; exact hk hr'⟩
  · by_cases e : k < v * 4 ∨ v * 4 + 4 ≤ k
    · obtain ⟨u, hv⟩ := h.there k hk'
      exact ⟨u, by rw [put4_out e]; exact hv⟩
    · obtain ⟨z0, z1, z2, z3, _, c0, c1, c2, c3⟩ := h4.ex
      obtain rfl | rfl | rfl | rfl : k = v * 4 ∨ k = v * 4 + 1 ∨ k = v * 4 + 2 ∨ k = v * 4 + 3 := by omega
      · exact ⟨_, c0⟩
      · exact ⟨_, c1⟩
      · exact ⟨_, c2⟩
      · exact ⟨_, c3⟩

/-- A row of bools. -/
structure Hav (w : World) (V n : Nat) (hv : Nat → Bool) : Prop where
  get : ∀ j, j < n → w.cell? ⟨V, j, none⟩ = some (.bool (hv j))
  free : ∀ k, w.frozen? ⟨V, k, none⟩ = false
theorem Hav.but {X : Nat → Prop} {w w' : World} {V n : Nat} {hv : Nat → Bool} (h : Hav w V n hv) (hV : V < w.heap.size) (hb : But X w w') (hX : ¬ X V) : Hav w' V n hv :=
  ⟨fun j hj => by rw [hb.cell (p := ⟨V, j, none⟩) hV hX]; exact h.get j hj, fun k => by rw [hb.frozen (p := ⟨V, k, none⟩) hV hX]; exact h.free k⟩
theorem Hav.upd {w : World} {V n v : Nat} {hv : Nat → Bool} (h : Hav w V n hv) (hi : v < n) (b : Bool) : Hav (w.setCell ⟨V, v, none⟩ (.bool b)) V n (upd hv v b) := by
  refine ⟨fun j hj => ?_, fun k => by rw [set_frozen]; exact h.free k⟩
  by_cases e : j = v
  · subst e
    rw [upd_same]; exact set_same (h.get j hj)
  · rw [upd_other _ _ e, set_other (fun x => e x.symm)]; exact h.get j hj

/-- The pattern with t(v) for each variable v. -/
def sbT : Nat → (Nat → Tm) → Tm → Tm
  | 0, _, p => p
  | d + 1, τ, p => if p.k = 3 then τ p.n.toNat else ⟨p.k, p.s, p.n, p.ts.map (sbT d τ)⟩
/-- Every variable of the pattern is one of Q. -/
def onV : Nat → (Nat → Prop) → Tm → Prop
  | 0, _, _ => True
  | d + 1, Q, p => (p.k = 3 → Q p.n.toNat) ∧ (p.k ≠ 3 → ∀ i (h : i < p.ts.length), onV d Q p.ts[i])

theorem onV.weak {Q R : Nat → Prop} : ∀ {d : Nat} {p : Tm}, onV d Q p → (∀ v, Q v → R v) → onV d R p
  | 0, _, _, _ => trivial
  | d + 1, p, h, k => ⟨fun e => k _ (h.1 e), fun e i hi => (h.2 e i hi).weak k⟩
theorem onV.and {Q R : Nat → Prop} : ∀ {d : Nat} {p : Tm}, onV d Q p → onV d R p → onV d (fun v => Q v ∧ R v) p
  | 0, _, _, _ => trivial
  | d + 1, p, h, k => ⟨fun e => ⟨h.1 e, k.1 e⟩, fun e i hi => (h.2 e i hi).and (k.2 e i hi)⟩
theorem sbT_congr : ∀ {d : Nat} {p : Tm} {τ τ' : Nat → Tm}, onV d (fun v => τ v = τ' v) p → sbT d τ p = sbT d τ' p
  | 0, _, _, _, _ => rfl
  | d + 1, p, τ, τ', h => by
    unfold sbT
    by_cases e : p.k = 3
    · simp [e, h.1 e]
    · simp only [e, if_false, Tm.mk.injEq, true_and]
      refine List.map_congr_left fun c hc => ?_
      obtain ⟨i, hi, rfl⟩ := List.getElem_of_mem hc
      exact sbT_congr (h.2 e i hi)

/-- τ says what L says where L says something. -/
def Ext (L τ : Nat → Tm) : Prop := ∀ j, (L j).k ≠ 3 → τ j = L j
theorem Ext.refl (L : Nat → Tm) : Ext L L := fun _ _ => rfl
theorem Ext.trans {L M N : Nat → Tm} (h : Ext L M) (k : Ext M N) : Ext L N := fun j hj => by
  have e := h j hj
  rw [k j (by rw [e]; exact hj), e]

/-- The number of free variables below n. -/
def fr : Nat → (Nat → Tm) → Nat
  | 0, _ => 0
  | n + 1, L => fr n L + if (L n).k = 3 then 1 else 0
theorem fr_le (L : Nat → Tm) : ∀ n, fr n L ≤ n
  | 0 => Nat.le_refl _
  | n + 1 => by
    have := fr_le L n
    unfold fr
    split <;> omega
theorem fr_congr {L M : Nat → Tm} : ∀ n, (∀ j, j < n → L j = M j) → fr n L = fr n M
  | 0, _ => rfl
  | n + 1, h => by
    unfold fr
    rw [fr_congr n (fun j hj => h j (by omega)), h n (by omega)]
theorem fr_upd (L : Nat → Tm) (t : Tm) (ht : t.k ≠ 3) : ∀ n v, v < n → (L v).k = 3 → fr n (upd L v t) + 1 = fr n L
  | 0, v, h, _ => absurd h (Nat.not_lt_zero _)
  | n + 1, v, h, hv => by
    unfold fr
    by_cases e : v = n
    · subst e
      rw [upd_same, fr_congr v (M := L) (fun j hj => upd_other _ _ (by omega))]
      simp [ht, hv]
    · have := fr_upd L t ht n v (by omega) hv
      rw [upd_other _ _ (by omega : n ≠ v)]
      omega

/-- What match does to a list. -/
structure MT (d : Nat) (L : Nat → Tm) (p q : Tm) (y : Bool) (L' : Nat → Tm) (same : Prop) : Prop where
  ext : Ext L L'
  yes : y = true → onV d (fun v => (L' v).k ≠ 3) p ∧ sbT d L' p = q
  all : ∀ τ, Ext L τ → sbT d τ p = q → y = true ∧ Ext L' τ
  stay : onV d (fun v => (L v).k ≠ 3) p → L' = L ∧ same

/-- What stays bound under what more is bound. -/
theorem yes_ext {d : Nat} {L M : Nat → Tm} {p : Tm} (h : Ext L M) (hv : onV d (fun v => (L v).k ≠ 3) p) : onV d (fun v => (M v).k ≠ 3) p ∧ sbT d M p = sbT d L p :=
  ⟨hv.weak fun v hk => by rw [h v hk]; exact hk, sbT_congr (hv.weak fun v hk => h v hk)⟩

end Go.Proofs.Qxb6608511a
