import Derived.Test.Qxb6608511aMid
import Derived.Test.Qxb6608511aTermsB
/-
  What the law's own memory holds behind the making of sigma.
-/
namespace Go.Proofs.Qxb6608511a
open Go.RowKit
set_option linter.unusedVariables false

/-- All that is kept from step to step. -/
structure Late (w0 w : World) (D : Nat) (p t : Tm) (pa : Option Addr) (pc : Nat) (ta : Option Addr) (tc : Nat) (xa : Option Addr) (xc : Nat) (ya : Option Addr) (yc : Nat) (B X1 X2 n T A c S : Nat) (L σ : Nat → Tm) : Prop where
  mid : Mid w0 w D p t pa pc ta tc xa xc ya yc B X1 X2
  row : Part w B n n (fun g => B < g ∧ g < X2) (D + 1) L
  tr : Tr w T A c
  sig : Part w S n n (fun g => g < w0.heap.size) (D + 1) σ
  xT : X2 < T
  xA : X2 < A
  xS : X2 < S
  nTA : T ≠ A
  nTS : T ≠ S
  nAS : A ≠ S
  lS : S < w.heap.size

section
variable {w0 w w' : World} {D : Nat} {p t : Tm} {pa : Option Addr} {pc : Nat} {ta : Option Addr} {tc : Nat} {xa : Option Addr} {xc : Nat} {ya : Option Addr} {yc : Nat} {B X1 X2 n T A c S : Nat} {L σ : Nat → Tm}

theorem Late.but {X : Nat → Prop} (h : Late w0 w D p t pa pc ta tc xa xc ya yc B X1 X2 n T A c S L σ) (hb : But X w w') (hx : ∀ g, X g → X2 < g) (nT : ¬ X T) (nA : ¬ X A) (nS : ¬ X S) : Late w0 w' D p t pa pc ta tc xa xc ya yc B X1 X2 n T A c S L σ := by
  have o1 := h.mid.o1
  have o2 := h.mid.o2
  have o3 := h.mid.o3
  have o4 := h.mid.o4
  exact ⟨h.mid.but hb (fun g hg => .inr (hx g hg)), h.row.but (by omega) hb (fun e => by have := hx B e; omega) (fun g hg e => by have := hx g e; omega), h.tr.but hb nT nA, h.sig.but h.lS hb nS (fun g hg e => by have := hx g e; omega), h.xT, h.xA, h.xS, h.nTA, h.nTS, h.nAS, Nat.lt_of_lt_of_le h.lS hb.size⟩
theorem Late.below (h : Late w0 w D p t pa pc ta tc xa xc ya yc B X1 X2 n T A c S L σ) (hb : Below w.heap.size w w') : Late w0 w' D p t pa pc ta tc xa xc ya yc B X1 X2 n T A c S L σ :=
  h.but (X := fun _ => False) (But.of_below hb) (fun _ h => h.elim) (fun h => h) (fun h => h) (fun h => h)
theorem Late.min (h : Late w0 w D p t pa pc ta tc xa xc ya yc B X1 X2 n T A c S L σ) (hn : n ≤ 4096) (hc : c + fr n L ≤ 8192) : MIn w B T A n (fun g => B < g ∧ g < X2) D L c := by
  have o1 := h.mid.o1
  have o2 := h.mid.o2
  have o3 := h.mid.o3
  have o4 := h.mid.o4
  have a1 := h.xT
  have a2 := h.xA
  exact ⟨h.row, h.tr, by omega, fun g hg => by omega, fun e => by omega, fun e => by omega, fun e => by omega, by omega, by omega, h.nTA, hc, hn⟩
theorem Late.matched {L' : Nat → Tm} {c' A' : Nat} (h : Late w0 w D p t pa pc ta tc xa xc ya yc B X1 X2 n T A c S L σ) (k1 : Part w' B n n (fun g => B < g ∧ g < X2) (D + 1) L') (k2 : Tr w' T A' c') (k3 : A' = A ∨ w.heap.size ≤ A') (k4 : But (fun g => g = B ∨ g = T ∨ g = A) w w') : Late w0 w' D p t pa pc ta tc xa xc ya yc B X1 X2 n T A' c' S L' σ := by
  have o1 := h.mid.o1
  have o2 := h.mid.o2
  have o3 := h.mid.o3
  have o4 := h.mid.o4
  have a1 := h.xT
  have a2 := h.xA
  have a3 := h.xS
  have a4 := h.nTA
  have a5 := h.nTS
  have a6 := h.nAS
  have a7 := h.lS
  have a8 := h.tr.lt
  refine ⟨h.mid.but k4 (fun g hg => by omega), k1, k2, h.sig.but h.lS k4 (by omega) (fun g hg e => by omega), a1, ?_, a3, ?_, a5, ?_, Nat.lt_of_lt_of_le a7 k4.size⟩ <;> rcases k3 with e | e <;> omega
end

end Go.Proofs.Qxb6608511a
