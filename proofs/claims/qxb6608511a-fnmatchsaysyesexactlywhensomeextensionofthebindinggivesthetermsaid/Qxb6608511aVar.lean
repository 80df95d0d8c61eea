import Derived.Test.Qxb6608511aApp
/-
  match (15) at a variable.
-/
namespace Go.Proofs.Qxb6608511a
open Go.RowKit
set_option linter.unusedVariables false

/-- match's post. -/
def MatchPost (w : World) (B T A n : Nat) (P : Nat → Prop) (d D : Nat) (L : Nat → Tm) (c : Nat) (p q : Tm) : Ending → World → Prop := fun e w' =>
  ∃ y L' c' A', e = .returned (.bool y) ∧ Part w' B n n P D L' ∧ Tr w' T A' c' ∧ (A' = A ∨ w.heap.size ≤ A') ∧ But (fun g => g = B ∨ g = T ∨ g = A) w w' ∧ c' + fr n L' ≤ c + fr n L ∧ MT d L p q y L' (c' = c)

/-- What match is handed. -/
structure MIn (w : World) (B T A n : Nat) (P : Nat → Prop) (D : Nat) (L : Nat → Tm) (c : Nat) : Prop where
  row : Part w B n n P (D + 1) L
  tr : Tr w T A c
  ltB : B < w.heap.size
  ltP : ∀ g, P g → g < w.heap.size
  nB : ¬ P B
  nT : ¬ P T
  nA : ¬ P A
  bt : B ≠ T
  ba : B ≠ A
  ta : T ≠ A
  small : c + fr n L ≤ 8192
  n4 : n ≤ 4096

theorem MIn.below {w w' : World} {B T A n : Nat} {P : Nat → Prop} {D : Nat} {L : Nat → Tm} {c : Nat} (h : MIn w B T A n P D L c) (hb : Below w.heap.size w w') : MIn w' B T A n P D L c :=
  ⟨h.row.carry h.ltB hb, h.tr.but (X := fun _ => False) (But.of_below hb) (fun h => h) (fun h => h), Nat.lt_of_lt_of_le h.ltB hb.size, fun g hg => Nat.lt_of_lt_of_le (h.ltP g hg) hb.size, h.nB, h.nT, h.nA, h.bt, h.ba, h.ta, h.small, h.n4⟩

theorem bel_three (w : World) (o1 o2 o3 : Obj) : Below w.heap.size w (((w.alloc o1).alloc o2).alloc o3) := (bel_two w o1 o2).alloc (by simp; omega) _

set_option maxHeartbeats 1000000 in
set_option maxRecDepth 100000 in
theorem match_bound (d D : Nat) (B T A n : Nat) (P : Nat → Prop) (L : Nat → Tm) (c : Nat) (p q : Tm) (vp vq : Value) (w : World) (hp : Rep w P (d + 1) p vp) (hq : Rep w P (D + 1) q vq) (hwf : WF (d + 1) 2 n p) (hin : MIn w B T A n P D L c) (hk : p.k = 3) (m : Nat) (hm : p.n = m) (hl : (L m).k ≠ 3) :
    Calls Try.prog 15 #[.slice (some ⟨B, 0, none⟩) n n, vp, vq, .pointer (some ⟨T, 0, none⟩)] w (MatchPost w B T A n P (d + 1) (D + 1) L c p q) := by
  obtain ⟨pa, pc, rfl, p1, p2, p3, p4, p5, p6, p7⟩ := hp.opn
  obtain ⟨ua, uc, rfl, t1, t2, t3, t4, t5, t6, t7⟩ := hq.opn
  have hk' : (p.k == 3) = true := by simp [hk]
  have hl' : ((L m).k != 3) = true := by simp [hl]
  have hmn : m < n := by have := hwf.vr hk; omega
  have hn4 := hin.n4
  have hB := hin.ltB
  obtain ⟨u, hf, hr⟩ := hin.row.done m hmn
  obtain ⟨xa, xc, rfl, _⟩ := hr.opn
  obtain ⟨w0, w1, w2, w3, e, y0, y1, y2, y3⟩ := hf.ex
  unfold nodeV at e
  injection e with e
  simp at e
  obtain ⟨rfl, rfl, rfl, rfl⟩ := e
  have HQR := hid hq
  have HK := hid hk
  have HM := hid hm
  have HL := hid hl
  have HI := hid hin
  have HR := hid hr
  have C := fun w' (hw : Below w.heap.size w w') => equal_any (D + 1) (L m) q _ _ w' P P (hr.below hw) (hq.below hw)
  have HC := hid C
  clear hp hq hwf hin hk hl hr hf C
  unfold nodeV at HC
  unfold nodeV
  rw [hm]
  clear hm
  go_enter Try.func15, Try.ntmps15
  go_wp2_with fail
  refine (HC.out _ (bel_three w _ _ _)).mono ?_
  rintro e wa ⟨rfl, hwa⟩
  have HW := hid hwa
  clear hwa HC
  go_wp2
  go_ret
  have hb := (bel_three w _ _ _).trans (HW.out.mono (bel_three w _ _ _).size)
  have hi2 := HI.out.below hb
  exact ⟨_, L, c, A, rfl, hi2.row, hi2.tr, .inl rfl, But.of_below hb, Nat.le_refl _, MT.bound HK.out HM.out HL.out HR.out.fit rfl⟩

end Go.Proofs.Qxb6608511a
