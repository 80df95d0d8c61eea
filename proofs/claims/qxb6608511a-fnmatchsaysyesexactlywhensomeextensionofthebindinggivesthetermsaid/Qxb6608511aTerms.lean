import Derived.Test.Qxb6608511aTo
/-
  termsOf (5): a fresh row of terms.
-/
namespace Go.Proofs.Qxb6608511a
open Go.RowKit
set_option linter.unusedVariables false

/-- A slice of terms, read as the row of a node. -/
abbrev rowT (L : List Tm) : Tm := ⟨0, ⟨#[]⟩, 0, L⟩
/-- The j-th of a list of terms. -/
abbrev atL (L : List Tm) (j : Nat) : Tm := L.getD j ⟨0, ⟨#[]⟩, 0, []⟩

set_option maxHeartbeats 4000000 in
set_option maxRecDepth 100000 in
theorem terms_any (d : Nat) (L : List Tm) (a : Option Addr) (c : Nat) (w : World) (P : Nat → Prop) (h : Rep w P (d + 1) (rowT L) (nodeV (rowT L) a c)) :
    Calls Try.prog 5 #[.slice a L.length c] w fun e w' => e = .returned (.slice (some ⟨w.heap.size, 0, none⟩) L.length L.length) ∧ Part w' w.heap.size L.length L.length (fun g => w.heap.size < g) d (atL L) ∧ Below w.heap.size w w' := by
  obtain ⟨_, _, _, _, h2, _⟩ := h.opn
  have h2' : L.length ≤ 2932031007402 := h2
  have HR := hid h
  have hmk := fun w => make32 w L.length h2'
  clear h h2
  go_enter Try.func5, Try.ntmps5
  go_wp2
  go_loopw [4] (fun v4 wc => ∃ i : Nat, v4 = .int .i64 i ∧ i ≤ L.length ∧ Part wc w.heap.size L.length i (fun g => w.heap.size < g) d (atL L) ∧ Below w.heap.size w wc) (fun v4 _ => L.length - (intOf v4).toNat)
  case atStart => exact ⟨0, rfl, Nat.zero_le _, part_zero w _ rfl _ _ _, (Below.refl _ _).alloc (Nat.le_refl _) _⟩
  case round =>
    obtain ⟨i, rfl, hi, hpart, hbel⟩ := hrel
    have HB := hid hbel
    by_cases hlt : i < L.length
    · obtain ⟨q, g, o, b, e, hq, hp, _, hg, c0, c1, c2, c3, hkid⟩ := (HR.out.below hbel).kidV (i := i) hlt
      subst hp
      have C := hid (to_any d q _ wr P hkid)
      have HQ : Hid (atL L i = q) := by show _ = _; rw [← hq]; simp [List.getElem?_eq_getElem hlt]
      have HM : w.heap.size < wr.heap.size := by
        obtain ⟨v, hv⟩ := hpart.there 0 (by omega)
        exact cell_lt hv
      have HP := hid hpart
      clear hkid hbel hpart hq
      go_wp2_with fail
      refine C.out.mono ?_
      rintro e wa ⟨a', c', rfl, hrep, hwa⟩
      have hpa := HP.out.carry HM hwa
      obtain ⟨y0, z0⟩ := hpa.there (i * 4) (by omega)
      obtain ⟨y1, z1⟩ := hpa.there (i * 4 + 1) (by omega)
      obtain ⟨y2, z2⟩ := hpa.there (i * 4 + 2) (by omega)
      obtain ⟨y3, z3⟩ := hpa.there (i * 4 + 3) (by omega)
      have f0 := hpa.free (i * 4)
      have f1 := hpa.free (i * 4 + 1)
      have f2 := hpa.free (i * 4 + 2)
      have f3 := hpa.free (i * 4 + 3)
      have HPA := hid hpa
      have HRP := hid hrep
      have HW := hid hwa
      clear hpa hrep hwa C HP
      unfold nodeV
      go_wp2
      go_round
      case rel =>
        refine ⟨i + 1, by go_num, by omega, ?_, ?_⟩
        · have := HPA.out.put (x0 := .int .u8 q.k) (x1 := .string q.s) (x2 := .int .i64 q.n) (x3 := .slice a' q.ts.length c') hlt (by simp) (by
            rw [HQ.out]
            exact HRP.out.mono (fun g hg => by omega))
          exact this
        · exact put4_below (M := w.heap.size) (o := i * 4) (HB.out.trans (HW.out.mono HB.out.size)) (Nat.le_refl _)
      case measure => simp [intOf]; omega
    · have hin : i = L.length := by omega
      subst hin
      have HP := hid hpart
      clear hbel hpart
      go_wp2
      go_ret
      exact ⟨rfl, HP.out, HB.out⟩

end Go.Proofs.Qxb6608511a
