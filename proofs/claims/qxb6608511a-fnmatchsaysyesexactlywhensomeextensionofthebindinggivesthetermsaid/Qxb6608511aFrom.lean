import Derived.Test.Qxb6608511aFromN
/-
  fromTerm (11): a fresh tree that reads as the given one.
-/
namespace Go.Proofs.Qxb6608511a
open Go.RowKit
set_option linter.unusedVariables false

set_option maxHeartbeats 4000000 in
set_option maxRecDepth 100000 in
theorem from_any : ∀ (d : Nat) (t : Tm) (v : Value) (w : World) (P : Nat → Prop), Rep w P d t v → Calls Try.prog 11 #[v] w (Fresh w d t)
  | 0, _, _, _, _, h => h.elim
  | d + 1, t, v, w, P, h => by
    have IH : Hid (∀ (t : Tm) (v : Value) (w : World) (P : Nat → Prop), Rep w P d t v → Calls Try.prog 11 #[v] w (Fresh w d t)) := fun t v w P h => from_any d t v w P h
    obtain ⟨a, c, rfl, h1, h2, h3, h4, h5, h6, h7⟩ := h.opn
    have HR := hid h
    unfold big at h2
    have q28 : ∀ (w : World) (a : Option Addr) (n c : Nat), (binOp .neq 28 (.slice a n c) (.slice none 0 0)).run Try.prog w = .ok (.bool !a.isNone) w := fun w a n c => run_neq_slice_nil_any w _ _ a n c 0 0 Try.underlying28
    have CA := hid (args_any t.k t.s t.n a t.ts.length c)
    have CK := hid (fun w => kind_any t.k t.s t.n a t.ts.length c w h3 h4)
    have CT := hid (text_any t.k t.s t.n a t.ts.length c)
    have CN := hid (num_any t.k t.s t.n a t.ts.length c)
    cases a with
    | none => exact from_none d t c w (hid h.nilRow) h2 h3 h4 h5 h6 h7
    | some p =>
      clear h
      have hmk := fun w => make24 w t.ts.length h2
      unfold nodeV
      go_enter Try.func11, Try.ntmps11
      go_wp2_with fail
      refine (CA.out _).mono ?_
      rintro e wb ⟨rfl, hwb⟩
      have HWB := hid hwb
      have BX := hid (Box.fst.keep hwb (by simp))
      have zb := BX.out.lt
      clear CA hwb
      go_wp2
      go_loopw [5] (fun v5 wc => ∃ i : Nat, v5 = .int .i64 i ∧ i ≤ t.ts.length ∧ Part wc wb.heap.size t.ts.length i (fun g => wb.heap.size < g) d (atL t.ts) ∧ Below wb.heap.size wb wc) (fun v5 _ => t.ts.length - (intOf v5).toNat)
      case atStart => exact ⟨0, rfl, Nat.zero_le _, part_zero24 wb _ rfl _ _ _, (Below.refl _ _).alloc (Nat.le_refl _) _⟩
      case round =>
        obtain ⟨i, rfl, hi, hpart, hbel⟩ := hrel
        have HB := hid hbel
        by_cases hlt : i < t.ts.length
        · obtain ⟨q, g, o, b, e, hq, hp, _, hg, c0, c1, c2, c3, hkid⟩ := ((HR.out.below ((bel_two w _ _).trans (HWB.out.mono (by simp; omega)))).below hbel).kidV hlt
          have C := hid (IH.out _ _ wr P hkid)
          have HQ : Hid (atL t.ts i = q) := by show _ = _; rw [← hq]; simp [List.getElem?_eq_getElem hlt]
          have HM : wb.heap.size < wr.heap.size := by
            obtain ⟨v, hv⟩ := hpart.there 0 (by omega)
            exact cell_lt hv
          injection hp with hp
          subst hp
          have HP := hid hpart
          clear hkid hbel hpart hq
          go_wp2_with fail
          refine C.out.mono ?_
          rintro e wa ⟨a', c', rfl, hrep, hwa⟩
          have hpa := HP.out.carry HM hwa
          obtain ⟨y0, z0⟩ := hpa.there (i * 4) (by omega)
          obtain ⟨y1, z1⟩ := hpa.there (i * 4 + 1) (by omega)
          obtain ⟨y2, z2⟩ := hpa.there (i * 4 + 2) (by omega)
          obtain ⟨y3, z3⟩ := hpa.there (i * 4 + 3) (by omega)
          have f0 := hpa.free (i * 4)
          have f1 := hpa.free (i * 4 + 1)
          have f2 := hpa.free (i * 4 + 2)
          have f3 := hpa.free (i * 4 + 3)
          have HPA := hid hpa
          have HRP := hid hrep
          have HW := hid hwa
          clear hpa hrep hwa C HP
          unfold nodeV
          go_wp2
          go_round
          case rel =>
            refine ⟨i + 1, by go_num, by omega, ?_, ?_⟩
            · have := HPA.out.put (x0 := .int .u8 q.k) (x1 := .string q.s) (x2 := .int .i64 q.n) (x3 := .slice a' q.ts.length c') hlt (by simp) (by
                rw [HQ.out]
                exact HRP.out.mono (fun g hg => by omega))
              exact this
            · exact put4_below (M := wb.heap.size) (o := i * 4) (HB.out.trans (HW.out.mono HB.out.size)) (Nat.le_refl _)
          case measure => simp [intOf]; omega
        · have hin : i = t.ts.length := by omega
          subst hin
          have HP := hid hpart
          have BX0 := hid (BX.out.keep hbel (by omega))
          clear hbel hpart BX
          have BX := BX0
          clear BX0
          have g0 := BX.out.g0
          have g1 := BX.out.g1
          have g2 := BX.out.g2
          have g3 := BX.out.g3
          go_wp2_with fail
          go_region_with (first | (go_at_call 17; refine (CK.out _).mono ?_; rintro e wa ⟨rfl, hwa⟩; have BX1 := hid (BX.out.drew.step hwa); have HW1 := hid hwa; have g0a := BX1.out.g0; have g1a := BX1.out.g1; have g2a := BX1.out.g2; have g3a := BX1.out.g3; clear hwa) | (go_at_call 18; refine (CT.out _).mono ?_; rintro e wa2 ⟨rfl, hwa⟩; have BX2 := hid (BX1.out.step hwa); have HW2 := hid hwa; have g0b := BX2.out.g0; have g1b := BX2.out.g1; have g2b := BX2.out.g2; have g3b := BX2.out.g3; clear hwa g0a g1a g2a g3a) | (go_at_call 19; refine (CN.out _).mono ?_; rintro e wa3 ⟨rfl, hwa⟩; have BX3 := hid (BX2.out.step hwa); have HW3 := hid hwa; obtain ⟨z1c, g0c, g1c, g2c, g3c, r0c, r1c, r2c, r3c, e0c, e1c, e2c, e3c⟩ := BX3.out; clear hwa g0b g1b g2b g3b g0c g1c g2c g3c))
          all_goals
            go_wp2
            refine bodyPost_ret (v := nodeV t (some ⟨wb.heap.size, 0, none⟩) t.ts.length) (by simp [results, Try.results11, go_sem, nodeV, r0c, r1c, r2c, r3c]) rfl ⟨_, _, rfl, ?_, ?_⟩
            · have R := HP.out.rep (Q := fun g => wb.heap.size ≤ g) (fun g hg => Nat.le_of_lt hg) (Nat.le_refl _) (by unfold big; exact h2) h3 h4 h5 h6 h7
              have R2 := ((R.below (bel_drew HW1.out)).below HW2.out).below HW3.out
              have R3 := R2.carry (w' := put4 wa3 (w.heap.size + 1) 0 (.int .u8 t.k) (.string t.s) (.int .i64 t.n) (.slice (some ⟨wb.heap.size, 0, none⟩) t.ts.length t.ts.length)) (fun g hg _ => put4_block (fun e : g = w.heap.size + 1 => by omega))
              exact R3.mono (fun g hg => by omega)
            · exact (bel_two w _ _).trans ((HWB.out.mono (by simp; omega)).trans ((HB.out.mono (by omega)).trans (((bel_drew HW1.out).mono (by have := BX.out.lt; omega)).trans ((HW2.out.mono (by have := BX1.out.lt; omega)).trans ((HW3.out.mono (by have := BX2.out.lt; omega)).trans (put4_below (M := w.heap.size + 1) (o := 0) (Below.refl _ _) (by omega)))))))

end Go.Proofs.Qxb6608511a
