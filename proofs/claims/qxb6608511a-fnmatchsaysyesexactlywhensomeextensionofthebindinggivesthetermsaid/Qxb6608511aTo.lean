import Derived.Test.Qxb6608511aPart
/-
  toTerm (6): a fresh tree that reads as the given one.
-/
namespace Go.Proofs.Qxb6608511a
open Go.RowKit
set_option linter.unusedVariables false

/-- A fresh value that reads as t. -/
def Fresh (w : World) (d : Nat) (t : Tm) : Ending → World → Prop := fun e w' => ∃ a c, e = .returned (nodeV t a c) ∧ Rep w' (fun g => w.heap.size ≤ g) d t (nodeV t a c) ∧ Below w.heap.size w w'

theorem info32 : (Try.prog.info? 32).map (fun i => (i.zero, i.size, i.bytes)) = some (some (.agg #[.int .u8 0, .string ⟨#[]⟩, .int .i64 0, .slice none 0 0]), 4, 56) := by kernel_rfl
/-- A row of zero terms. -/
def zeros (n : Nat) : Array Value := madeCells #[.int .u8 0, .string ⟨#[]⟩, .int .i64 0, .slice none 0 0] (n * 4)
theorem make32 (w : World) (n : Nat) (h : n ≤ 2932031007402) : (Instr.makeSlice 28 (.int .i64 n) (.int .i64 n)).run Try.prog w = .ok (.slice (some ⟨w.heap.size, 0, none⟩) n n) (w.alloc (.cells (zeros n) 32)) := by
  cases hi : Try.prog.info? 32 with
  | none => have := info32; rw [hi] at this; cases this
  | some i =>
    have e := info32
    rw [hi] at e
    simp only [Option.map_some, Option.some.injEq, Prod.mk.injEq] at e
    have := run_make w 28 32 i _ Try.underlying28 hi e.1 .i64 .i64 n n (by omega) (Int.le_refl _) (by rw [e.2.2]; omega) (by omega)
    rw [this, e.2.1]
    rfl

theorem part_zero (w : World) (n : Nat) {M : Nat} (hM : w.heap.size = M) (P : Nat → Prop) (d : Nat) (f : Nat → Tm) : Part (w.alloc (.cells (zeros n) 32)) M n 0 P d f := by
  subst hM
  refine ⟨fun j hj => absurd hj (Nat.not_lt_zero _), fun k hk => ?_, fun k => by simp [go_sem]⟩
  have hs : k < (zeros n).size := by unfold zeros; rw [size_madeCells]; exact hk
  exact ⟨(zeros n)[k], by simp [go_sem, hs]⟩

/-- A full row is a term's row. -/
theorem Part.rep {w : World} {M : Nat} {P Q : Nat → Prop} {d : Nat} {t : Tm} (h : Part w M t.ts.length t.ts.length P d (fun j => t.ts.getD j ⟨0, ⟨#[]⟩, 0, []⟩)) (hq : ∀ g, P g → Q g) (hM : Q M)
    (h2 : t.ts.length ≤ big) (h3 : 0 ≤ t.k) (h4 : t.k ≤ 255) (h5 : -9223372036854775808 ≤ t.n) (h6 : t.n ≤ 9223372036854775807) (h7 : t.s.size ≤ 140737488355328) :
    Rep w Q (d + 1) t (nodeV t (some ⟨M, 0, none⟩) t.ts.length) := by
  refine ⟨_, _, rfl, Nat.le_refl _, h2, h3, h4, h5, h6, h7, .inr ⟨M, 0, rfl, hM, fun i hi => ?_⟩⟩
  obtain ⟨u, hf, hr⟩ := h.done i hi
  refine ⟨u, by simpa using hf, ?_⟩
  have e : t.ts.getD i ⟨0, ⟨#[]⟩, 0, []⟩ = t.ts[i] := by simp [List.getD, List.getElem?_eq_getElem hi]
  simp only [e] at hr
  exact hr.mono hq

theorem put4_below {B : Nat} {a w : World} {M o : Nat} {x0 x1 x2 x3 : Value} (h : Below B a w) (hM : B ≤ M) : Below B a (put4 w M o x0 x1 x2 x3) :=
  (((h.setCell hM _).setCell hM _).setCell hM _).setCell hM _

set_option maxHeartbeats 4000000 in
set_option maxRecDepth 100000 in
theorem to_any : ∀ (d : Nat) (t : Tm) (v : Value) (w : World) (P : Nat → Prop), Rep w P d t v → Calls Try.prog 6 #[v] w (Fresh w d t)
  | 0, _, _, _, _, h => h.elim
  | d + 1, t, v, w, P, h => by
    have IH : Hid (∀ (t : Tm) (v : Value) (w : World) (P : Nat → Prop), Rep w P d t v → Calls Try.prog 6 #[v] w (Fresh w d t)) := fun t v w P h => to_any d t v w P h
    obtain ⟨a, c, rfl, h1, h2, h3, h4, h5, h6, h7⟩ := h.opn
    have HR := hid h
    unfold big at h2
    have q22 : ∀ (w : World) (a : Option Addr) (n c : Nat), (binOp .neq 22 (.slice a n c) (.slice none 0 0)).run Try.prog w = .ok (.bool !a.isNone) w := fun w a n c => run_neq_slice_nil_any w _ _ a n c 0 0 Try.underlying22
    cases a with
    | none =>
      have hnil : t.ts = [] := h.nilRow
      clear h
      have HN := hid hnil
      clear hnil
      unfold nodeV
      go_enter Try.func6, Try.ntmps6
      have CM := hid (make_any t.k t.s t.n none 0 0)
      go_wp2_with fail
      refine (CM.out _).mono ?_
      rintro e wa ⟨rfl, hwa⟩
      have HW := hid hwa
      have g0 := hwa.cell (p := ⟨w.heap.size + 1, 0, none⟩) (by simp)
      have g1 := hwa.cell (p := ⟨w.heap.size + 1, 1, none⟩) (by simp)
      have g2 := hwa.cell (p := ⟨w.heap.size + 1, 2, none⟩) (by simp)
      have g3 := hwa.cell (p := ⟨w.heap.size + 1, 3, none⟩) (by simp)
      have e0 := hwa.frozen (p := ⟨w.heap.size + 1, 0, none⟩) (by simp)
      have e1 := hwa.frozen (p := ⟨w.heap.size + 1, 1, none⟩) (by simp)
      have e2 := hwa.frozen (p := ⟨w.heap.size + 1, 2, none⟩) (by simp)
      have e3 := hwa.frozen (p := ⟨w.heap.size + 1, 3, none⟩) (by simp)
      simp [go_sem] at g0 g1 g2 g3 e0 e1 e2 e3
      clear hwa CM
      go_wp2
      refine bodyPost_ret (v := nodeV t none 0) (by simp [results, Try.results6, go_sem, nodeV, g0, g1, g2, g3, HN.out]) rfl ⟨none, 0, rfl, ?_, ?_⟩
      · exact ⟨none, 0, rfl, by rw [HN.out]; exact Nat.le_refl _, by unfold big; exact h2, h3, h4, h5, h6, h7, .inl HN.out⟩
      · exact (bel_two w _ _).trans ((HW.out.mono (by simp; omega)).trans (put4_below (Below.refl _ _) (by omega)))
    | some p =>
      clear h
      have hmk := fun w => make32 w t.ts.length h2
      unfold nodeV
      go_enter Try.func6, Try.ntmps6
      go_wp2
      go_loopw [4] (fun v4 wc => ∃ i : Nat, v4 = .int .i64 i ∧ i ≤ t.ts.length ∧ Part wc (w.heap.size + 2) t.ts.length i (fun g => w.heap.size + 2 < g) d (fun j => t.ts.getD j ⟨0, ⟨#[]⟩, 0, []⟩) ∧ Below (w.heap.size + 2) ((w.alloc (.cells #[.int .u8 t.k, .string t.s, .int .i64 t.n, .slice (some p) t.ts.length c] 24)).alloc (.cells #[.int .u8 0, .string ⟨#[]⟩, .int .i64 0, .slice none 0 0] 32)) wc) (fun v4 _ => t.ts.length - (intOf v4).toNat)
      case atStart =>
        refine ⟨0, rfl, Nat.zero_le _, ?_, (Below.refl _ _).alloc (by simp) _⟩
        exact part_zero ((w.alloc _).alloc _) _ (by simp) _ _ _
      case round =>
        obtain ⟨i, rfl, hi, hpart, hbel⟩ := hrel
        have b3 := hbel.cell (p := ⟨w.heap.size, 3, none⟩) (by simp)
        simp [go_sem] at b3
        have HB := hid hbel
        by_cases hlt : i < t.ts.length
        · obtain ⟨q, g, o, b, e, hq, hp, _, hg, c0, c1, c2, c3, hkid⟩ := (HR.out.afterG (bel_two w _ _) hbel (by omega)).kidV hlt
          have C := hid (IH.out _ _ wr P hkid)
          have HQ : Hid (t.ts.getD i ⟨0, ⟨#[]⟩, 0, []⟩ = q) := by show _ = _; rw [← hq]; simp [List.getD, List.getElem?_eq_getElem hlt]
          have HM : w.heap.size + 2 < wr.heap.size := by
            obtain ⟨v, hv⟩ := hpart.there 0 (by omega)
            exact cell_lt hv
          injection hp with hp
          subst hp
          have HP := hid hpart
          clear hkid hbel hpart hq
          go_wp2_with fail
          refine C.out.mono ?_
          rintro e wa ⟨a', c', rfl, hrep, hwa⟩
          have hpa := HP.out.carry HM hwa
          obtain ⟨y0, z0⟩ := hpa.there (i * 4) (by omega)
          obtain ⟨y1, z1⟩ := hpa.there (i * 4 + 1) (by omega)
          obtain ⟨y2, z2⟩ := hpa.there (i * 4 + 2) (by omega)
          obtain ⟨y3, z3⟩ := hpa.there (i * 4 + 3) (by omega)
          have f0 := hpa.free (i * 4)
          have f1 := hpa.free (i * 4 + 1)
          have f2 := hpa.free (i * 4 + 2)
          have f3 := hpa.free (i * 4 + 3)
          have HPA := hid hpa
          have HRP := hid hrep
          have HW := hid hwa
          clear hpa hrep hwa C HP
          unfold nodeV
          go_wp2
          go_round
          case rel =>
            refine ⟨i + 1, by go_num, by omega, ?_, ?_⟩
            · have := HPA.out.put (x0 := .int .u8 q.k) (x1 := .string q.s) (x2 := .int .i64 q.n) (x3 := .slice a' q.ts.length c') hlt (by simp) (by
                rw [HQ.out]
                exact HRP.out.mono (fun g hg => by omega))
              exact this
            · exact put4_below (M := w.heap.size + 2) (o := i * 4) (bel_roundG HB.out (by simp) HW.out) (Nat.le_refl _)
          case measure => simp [intOf]; omega
        · have CM := hid (make_any t.k t.s t.n (some ⟨w.heap.size + 2, 0, none⟩) t.ts.length t.ts.length)
          have g0 := hbel.cell (p := ⟨w.heap.size, 0, none⟩) (by simp)
          have g1 := hbel.cell (p := ⟨w.heap.size, 1, none⟩) (by simp)
          have g2 := hbel.cell (p := ⟨w.heap.size, 2, none⟩) (by simp)
          simp [go_sem] at g0 g1 g2
          have r0 := hbel.cell (p := ⟨w.heap.size + 1, 0, none⟩) (by simp)
          have r1 := hbel.cell (p := ⟨w.heap.size + 1, 1, none⟩) (by simp)
          have r2 := hbel.cell (p := ⟨w.heap.size + 1, 2, none⟩) (by simp)
          have r3 := hbel.cell (p := ⟨w.heap.size + 1, 3, none⟩) (by simp)
          have e0 := hbel.frozen (p := ⟨w.heap.size + 1, 0, none⟩) (by simp)
          have e1 := hbel.frozen (p := ⟨w.heap.size + 1, 1, none⟩) (by simp)
          have e2 := hbel.frozen (p := ⟨w.heap.size + 1, 2, none⟩) (by simp)
          have e3 := hbel.frozen (p := ⟨w.heap.size + 1, 3, none⟩) (by simp)
          simp [go_sem] at r0 r1 r2 r3 e0 e1 e2 e3
          have hz : w.heap.size + 1 < wr.heap.size := by have := hbel.size; simp at this; omega
          have HP := hid hpart
          clear hbel hpart
          go_wp2_with fail
          refine (CM.out _).mono ?_
          rintro e wa ⟨rfl, hwa⟩
          have a0 := (hwa.cell (p := ⟨w.heap.size + 1, 0, none⟩) hz).trans r0
          have a1 := (hwa.cell (p := ⟨w.heap.size + 1, 1, none⟩) hz).trans r1
          have a2 := (hwa.cell (p := ⟨w.heap.size + 1, 2, none⟩) hz).trans r2
          have a3 := (hwa.cell (p := ⟨w.heap.size + 1, 3, none⟩) hz).trans r3
          have b0 := (hwa.frozen (p := ⟨w.heap.size + 1, 0, none⟩) hz).trans e0
          have b1 := (hwa.frozen (p := ⟨w.heap.size + 1, 1, none⟩) hz).trans e1
          have b2 := (hwa.frozen (p := ⟨w.heap.size + 1, 2, none⟩) hz).trans e2
          have b4 := (hwa.frozen (p := ⟨w.heap.size + 1, 3, none⟩) hz).trans e3
          have HW := hid hwa
          clear hwa CM
          go_wp2
          refine bodyPost_ret (v := nodeV t (some ⟨w.heap.size + 2, 0, none⟩) t.ts.length) (by simp [results, Try.results6, go_sem, nodeV, a0, a1, a2, a3]) rfl ⟨_, _, rfl, ?_, ?_⟩
          · have hin : i = t.ts.length := by omega
            subst hin
            have R := HP.out.rep (Q := fun g => w.heap.size + 2 ≤ g) (fun g hg => Nat.le_of_lt hg) (Nat.le_refl _) (by unfold big; exact h2) h3 h4 h5 h6 h7
            have R2 := R.below HW.out
            have R3 := R2.carry (w' := put4 wa (w.heap.size + 1) 0 (.int .u8 t.k) (.string t.s) (.int .i64 t.n) (.slice (some ⟨w.heap.size + 2, 0, none⟩) t.ts.length t.ts.length)) (fun g hg _ => put4_block (fun e : g = w.heap.size + 1 => by omega))
            exact R3.mono (fun g hg => by omega)
          · exact bel_startG (bel_two w _ _) (bel_roundG HB.out (by simp) HW.out) (by omega) (put4_below (M := w.heap.size + 1) (o := 0) (Below.refl _ _) (by omega))

end Go.Proofs.Qxb6608511a
