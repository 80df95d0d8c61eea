import Derived.Test.Qxb6608511aLast
import Derived.Test.Qxb6608511aFromN
/-
  subst (8).
-/
namespace Go.Proofs.Qxb6608511a
open Go.RowKit
set_option linter.unusedVariables false

/-- What subst puts for a variable. -/
def val (L σ : Nat → Tm) : Nat → Tm := fun v => if (L v).k = 3 then σ v else L v

/-- What subst answers. -/
structure SB (d : Nat) (L σ : Nat → Tm) (hv : Nat → Bool) (p : Tm) (ok : Bool) (r : Tm) : Prop where
  yes : ok = true → r = sbT d (val L σ) p
  all : onV d (fun v => (L v).k = 3 → hv v = true) p → ok = true

/-- subst's post. -/
def SubstPost (w : World) (P : Nat → Prop) (d D : Nat) (L σ : Nat → Tm) (hv : Nat → Bool) (p : Tm) : Ending → World → Prop := fun e w' =>
  ∃ ok r a c, e = .returned (.tuple #[nodeV r a c, .bool ok]) ∧ Rep w' (fun g => P g ∨ w.heap.size ≤ g) (D + d) r (nodeV r a c) ∧ Below w.heap.size w w' ∧ SB d L σ hv p ok r

theorem SB.bound {d : Nat} {L σ : Nat → Tm} {hv : Nat → Bool} {p : Tm} {m : Nat} (hk : p.k = 3) (hm : p.n = m) (hl : (L m).k ≠ 3) : SB (d + 1) L σ hv p true (L m) :=
  ⟨fun _ => by unfold sbT val; simp [hk, hm, hl], fun _ => rfl⟩
theorem SB.free {d : Nat} {L σ : Nat → Tm} {hv : Nat → Bool} {p : Tm} {m : Nat} (hk : p.k = 3) (hm : p.n = m) (hl : (L m).k = 3) : SB (d + 1) L σ hv p true (σ m) :=
  ⟨fun _ => by unfold sbT val; simp [hk, hm, hl], fun _ => rfl⟩
theorem SB.no {d : Nat} {L σ : Nat → Tm} {hv : Nat → Bool} {p r : Tm} {m : Nat} (hk : p.k = 3) (hm : p.n = m) (hl : (L m).k = 3) (hh : hv m = false) : SB (d + 1) L σ hv p false r :=
  ⟨fun h => (by cases h), fun h => (by have := h.1 hk; rw [hm] at this; have := this hl; simp [hh] at this)⟩
theorem SB.leaf {d : Nat} {L σ : Nat → Tm} {hv : Nat → Bool} {p : Tm} (hk : p.k ≠ 3) (hm : p.ts = []) : SB (d + 1) L σ hv p true p :=
  ⟨fun _ => by unfold sbT; simp [hk, hm]; exact Tm.ext' rfl rfl rfl hm, fun _ => rfl⟩
theorem SB.halts {d : Nat} {L σ : Nat → Tm} {hv : Nat → Bool} {p r c : Tm} {i : Nat} (hk : p.k ≠ 3) (hi : i < p.ts.length) (h : SB d L σ hv p.ts[i] false c) : SB (d + 1) L σ hv p false r :=
  ⟨fun h => (by cases h), fun hh => absurd (h.all (hh.2 hk i hi)) (by simp)⟩
/-- The children. -/
def subL (d : Nat) (τ : Nat → Tm) (p : Tm) : Tm := ⟨p.k, p.s, p.n, p.ts.map (sbT d τ)⟩
theorem SB.node {d : Nat} {L σ : Nat → Tm} {hv : Nat → Bool} {p : Tm} (hk : p.k ≠ 3) : SB (d + 1) L σ hv p true (subL d (val L σ) p) :=
  ⟨fun _ => by unfold sbT subL; simp [hk], fun _ => rfl⟩

theorem atL_sub {d : Nat} {τ : Nat → Tm} {p : Tm} {i : Nat} (h : i < p.ts.length) : atL (subL d τ p).ts i = sbT d τ p.ts[i] := by
  simp [subL, List.getElem?_eq_getElem h]

set_option maxHeartbeats 1000000 in
set_option maxRecDepth 100000 in
theorem subst_any (L : List Tm) (a : Option Addr) (c S V D : Nat) (σ : Nat → Tm) (hv : Nat → Bool) (P : Nat → Prop) (hn : L.length ≤ 4096) : ∀ (d : Nat) (p : Tm) (vp : Value) (w : World),
    Rep w P d p vp → Rep w P (D + 1 + 1) (rowT L) (nodeV (rowT L) a c) → WF d 2 L.length p → Part w S L.length L.length P (D + 1) σ → Hav w V L.length hv → S < w.heap.size → V < w.heap.size → (∀ g, P g → g < w.heap.size) →
    Calls Try.prog 8 #[vp, .slice a L.length c, .slice (some ⟨S, 0, none⟩) L.length L.length, .slice (some ⟨V, 0, none⟩) L.length L.length] w (SubstPost w P d (D + 1) (atL L) σ hv p)
  | 0, _, _, _, h, _, _, _, _, _, _, _ => h.elim
  | d + 1, p, vp, w, hp, hL, hwf, hpart, hhav, hS, hV, hPw => by
    have IH : Hid (∀ (p : Tm) (vp : Value) (w : World),
      Rep w P d p vp → Rep w P (D + 1 + 1) (rowT L) (nodeV (rowT L) a c) → WF d 2 L.length p → Part w S L.length L.length P (D + 1) σ → Hav w V L.length hv → S < w.heap.size → V < w.heap.size → (∀ g, P g → g < w.heap.size) →
      Calls Try.prog 8 #[vp, .slice a L.length c, .slice (some ⟨S, 0, none⟩) L.length L.length, .slice (some ⟨V, 0, none⟩) L.length L.length] w (SubstPost w P d (D + 1) (atL L) σ hv p)) := subst_any L a c S V D σ hv P hn d
    obtain ⟨pa, pc, rfl, p1, p2, p3, p4, p5, p6, p7⟩ := hp.opn
    have HPR := hid hp
    have HLR := hid hL
    have HWF := hid hwf
    have HP := hid hpart
    have HH := hid hhav
    clear hp hL hwf hpart hhav
    unfold big at p2
    by_cases hk : p.k = 3
    · have hk' : (p.k == 3) = true := by simp [hk]
      obtain ⟨v0, v1⟩ := HWF.out.vr hk
      obtain ⟨m, hm⟩ : ∃ m : Nat, p.n = m := ⟨p.n.toNat, by omega⟩
      have hmn : m < L.length := by omega
      have HK := hid hk
      have HM := hid hm
      obtain ⟨b, g, o, ba, be, hbq, hbp, hPg, hg, c0, c1, c2, c3, hkid⟩ := HLR.out.kidV (i := m) hmn
      subst hbp
      have HBQ : Hid (atL L m = b) := by show _ = _; rw [← hbq]; simp [List.getElem?_eq_getElem hmn]
      have HKD := hid hkid
      clear hbq hkid hk
      unfold nodeV
      rw [hm]
      clear hm
      by_cases hb3 : b.k = 3
      · have hb3' : (b.k != 3) = false := by simp [hb3]
        have HB3 := hid hb3
        clear hb3
        have x0 := HH.out.get m hmn
        have x1 := HH.out.free m
        cases hh : hv m with
        | true =>
          obtain ⟨u, hf, hr⟩ := HP.out.done m hmn
          obtain ⟨ua, uc, rfl, _⟩ := hr.opn
          obtain ⟨w0, w1, w2, w3, e, y0, y1, y2, y3⟩ := hf.ex
          unfold nodeV at e
          injection e with e
          simp at e
          obtain ⟨rfl, rfl, rfl, rfl⟩ := e
          have HR := hid hr
          rw [hh] at x0
          have HHH := hid hh
          clear hr hf hh
          go_enter Try.func8, Try.ntmps8
          go_wp2
          exact bodyPost_ret (v := .tuple #[nodeV (σ m) ua uc, .bool true]) (by simp [results, Try.results8, go_sem, nodeV]) rfl ⟨true, σ m, ua, uc, rfl, ((HR.out.below (bel_two _ _ _)).le (by omega)).mono (fun _ h => .inl h), bel_two _ _ _, SB.free HK.out HM.out (by rw [HBQ.out]; exact HB3.out)⟩
        | false =>
          rw [hh] at x0
          have HHH := hid hh
          clear hh
          go_enter Try.func8, Try.ntmps8
          go_wp2
          exact bodyPost_ret (v := .tuple #[nodeV zT none 0, .bool false]) (by simp [results, Try.results8, go_sem, nodeV]) rfl ⟨false, zT, none, 0, rfl, (zRep _ _ D _ _).le (by omega), bel_two _ _ _, SB.no HK.out HM.out (by rw [HBQ.out]; exact HB3.out) HHH.out⟩
      · have hb3' : (b.k != 3) = true := by simp [hb3]
        have HB3 := hid hb3
        clear hb3
        go_enter Try.func8, Try.ntmps8
        go_wp2
        exact bodyPost_ret (v := .tuple #[nodeV b ba be, .bool true]) (by simp [results, Try.results8, go_sem, nodeV]) rfl ⟨true, b, ba, be, rfl, ((HKD.out.below (bel_two _ _ _)).le (by omega)).mono (fun _ h => .inl h), bel_two _ _ _, by rw [← HBQ.out]; exact SB.bound HK.out HM.out (by rw [HBQ.out]; exact HB3.out)⟩
    · have hk' : (p.k == 3) = false := by simp [hk]
      have HK := hid hk
      clear hk
      unfold nodeV
      by_cases h0 : p.ts.length = 0
      · have H0 : Hid (p.ts = []) := List.eq_nil_of_length_eq_zero h0
        have h0' : (((p.ts.length : Nat) : Int) == 0) = true := by simp [h0]
        clear h0
        go_enter Try.func8, Try.ntmps8
        go_wp2
        exact bodyPost_ret (v := .tuple #[nodeV p pa pc, .bool true]) (by simp [results, Try.results8, go_sem, nodeV]) rfl ⟨true, p, pa, pc, rfl, ((HPR.out.below (bel_two _ _ _)).le (by omega)).mono (fun _ h => .inl h), bel_two _ _ _, SB.leaf HK.out H0.out⟩
      · have h0' : (((p.ts.length : Nat) : Int) == 0) = false := by simp [h0]
        have H0 := hid h0
        clear h0
        have hmk := fun w => make24 w p.ts.length p2
        go_enter Try.func8, Try.ntmps8
        go_wp2
        go_loopw [12] (fun v12 wc => ∃ (i : Nat), v12 = .int .i64 i ∧ i ≤ p.ts.length ∧ Part wc (w.heap.size + 2) p.ts.length i (fun g => P g ∨ w.heap.size + 3 ≤ g) (D + 1 + d) (atL (subL d (val (atL L) σ) p).ts) ∧ Below (w.heap.size + 2) ((w.alloc (.cells #[.int .u8 p.k, .string p.s, .int .i64 p.n, .slice pa p.ts.length pc] 24)).alloc (.cells #[.int .u8 0, .string ⟨#[]⟩, .int .i64 0, .slice none 0 0] 24)) wc) (fun v12 _ => p.ts.length - (intOf v12).toNat)
        case atStart =>
          refine ⟨0, rfl, Nat.zero_le _, ?_, (Below.refl _ _).alloc (by simp) _⟩
          exact part_zero24 ((w.alloc _).alloc _) _ (by simp) _ _ _
        case round =>
          obtain ⟨i, rfl, hi, hpart, hbel⟩ := hrel
          have b0 := hbel.cell (p := ⟨w.heap.size, 0, none⟩) (by simp)
          have b1 := hbel.cell (p := ⟨w.heap.size, 1, none⟩) (by simp)
          have b2 := hbel.cell (p := ⟨w.heap.size, 2, none⟩) (by simp)
          have b3 := hbel.cell (p := ⟨w.heap.size, 3, none⟩) (by simp)
          have r0 := hbel.cell (p := ⟨w.heap.size + 1, 0, none⟩) (by simp)
          have r1 := hbel.cell (p := ⟨w.heap.size + 1, 1, none⟩) (by simp)
          have r2 := hbel.cell (p := ⟨w.heap.size + 1, 2, none⟩) (by simp)
          have r3 := hbel.cell (p := ⟨w.heap.size + 1, 3, none⟩) (by simp)
          have e0 := hbel.frozen (p := ⟨w.heap.size + 1, 0, none⟩) (by simp)
          have e1 := hbel.frozen (p := ⟨w.heap.size + 1, 1, none⟩) (by simp)
          have e2 := hbel.frozen (p := ⟨w.heap.size + 1, 2, none⟩) (by simp)
          have e3 := hbel.frozen (p := ⟨w.heap.size + 1, 3, none⟩) (by simp)
          simp [go_sem] at b0 b1 b2 b3 r0 r1 r2 r3 e0 e1 e2 e3
          have hs := hbel.size
          simp at hs
          have HB := hid hbel
          have z0 : w.heap.size < wr.heap.size := by omega
          have z1 : w.heap.size + 1 < wr.heap.size := by omega
          have HM : w.heap.size + 2 < wr.heap.size := by
            obtain ⟨v, hv⟩ := hpart.there 0 (by have := H0.out; omega)
            exact cell_lt hv
          have HPT := hid hpart
          have HW := hid ((bel_two w _ _).trans (hbel.mono (by omega)))
          clear hpart hbel
          by_cases hlt : i < p.ts.length
          · obtain ⟨r, g, o, ba, be, hbq, hbp, hPg, hg, c0, c1, c2, c3, hkid⟩ := (HPR.out.below HW.out).kidV (i := i) hlt
            subst hbp
            have HR := hid hbq
            have C := hid (IH.out r _ wr hkid (HLR.out.below HW.out) (by rw [← hbq]; exact HWF.out.kid hlt) (HP.out.carry hS HW.out) (HH.out.but (X := fun _ => False) hV (But.of_below HW.out) (fun h => h)) (Nat.lt_of_lt_of_le hS HW.out.size) (Nat.lt_of_lt_of_le hV HW.out.size) (fun g hg => Nat.lt_of_lt_of_le (hPw g hg) HW.out.size))
            clear hbq hkid IH b0 b1 b2
            go_wp2_with fail
            refine C.out.mono ?_
            rintro e wa ⟨ok, x, xa, xc, rfl, hrep, hwa, hsb⟩
            have hpa := HPT.out.carry HM hwa
            have HPA := hid hpa
            have HRP := hid hrep
            have HWA := hid hwa
            have HSB := hid hsb
            have zM : w.heap.size + 2 < wa.heap.size := Nat.lt_of_lt_of_le HM hwa.size
            have z1' : w.heap.size + 1 < wa.heap.size := Nat.lt_of_lt_of_le z1 hwa.size
            clear C HPT
            unfold nodeV
            cases ok with
            | true =>
              obtain ⟨y0, s0⟩ := hpa.there (i * 4) (by omega)
              obtain ⟨y1, s1⟩ := hpa.there (i * 4 + 1) (by omega)
              obtain ⟨y2, s2⟩ := hpa.there (i * 4 + 2) (by omega)
              obtain ⟨y3, s3⟩ := hpa.there (i * 4 + 3) (by omega)
              have f0 := hpa.free (i * 4)
              have f1 := hpa.free (i * 4 + 1)
              have f2 := hpa.free (i * 4 + 2)
              have f3 := hpa.free (i * 4 + 3)
              clear hpa hrep hwa hsb r0 r1 r2 r3 e0 e1 e2 e3
              go_wp2
              go_round
              case rel =>
                have P1 := HPA.out.put (x0 := .int .u8 x.k) (x1 := .string x.s) (x2 := .int .i64 x.n) (x3 := .slice xa x.ts.length xc) hlt (fun h => by
                  rcases h with h | h
                  · have := hPw _ h; omega
                  · omega) (by
                  rw [atL_sub hlt, HR.out, ← HSB.out.yes (by first | rfl | trivial)]
                  exact HRP.out.mono (fun g hg => by
                    rcases hg with hg | hg
                    · exact .inl hg
                    · exact .inr (by omega)))
                have Z := Nat.lt_of_lt_of_le zM (put4_below (B := 0) (M := w.heap.size + 2) (o := i * 4) (x0 := .int .u8 x.k) (x1 := .string x.s) (x2 := .int .i64 x.n) (x3 := .slice xa x.ts.length xc) (Below.refl 0 wa) (Nat.zero_le _)).size
                refine ⟨i + 1, by go_num, by omega, P1.carry Z (bel_one _ _), ?_⟩
                exact (put4_below (M := w.heap.size + 2) (o := i * 4) (bel_roundG HB.out (by simp) HWA.out) (Nat.le_refl _)).alloc (Nat.le_of_lt Z) _
              case measure => simp [intOf]; omega
            | false =>
              replace r0 := (hwa.cell (p := ⟨w.heap.size + 1, 0, none⟩) z1).trans r0
              replace r1 := (hwa.cell (p := ⟨w.heap.size + 1, 1, none⟩) z1).trans r1
              replace r2 := (hwa.cell (p := ⟨w.heap.size + 1, 2, none⟩) z1).trans r2
              replace r3 := (hwa.cell (p := ⟨w.heap.size + 1, 3, none⟩) z1).trans r3
              replace e0 := (hwa.frozen (p := ⟨w.heap.size + 1, 0, none⟩) z1).trans e0
              replace e1 := (hwa.frozen (p := ⟨w.heap.size + 1, 1, none⟩) z1).trans e1
              replace e2 := (hwa.frozen (p := ⟨w.heap.size + 1, 2, none⟩) z1).trans e2
              replace e3 := (hwa.frozen (p := ⟨w.heap.size + 1, 3, none⟩) z1).trans e3
              clear hpa hrep hwa hsb
              go_wp2
              refine bodyPost_ret (v := .tuple #[nodeV zT none 0, .bool false]) (by simp [results, Try.results8, go_sem, nodeV, r0, r1, r2, r3, z1']) rfl ⟨false, zT, none, 0, rfl, (zRep _ _ D _ _).le (by omega), ?_, SB.halts HK.out hlt (by rw [HR.out]; exact HSB.out)⟩
              have Z := Nat.lt_of_lt_of_le zM (put4_below (B := 0) (M := w.heap.size + 1) (o := 0) (x0 := .int .u8 0) (x1 := .string ⟨#[]⟩) (x2 := .int .i64 0) (x3 := .slice none 0 0) (Below.refl 0 wa) (Nat.zero_le _)).size
              exact (put4_below (M := w.heap.size + 1) (o := 0) (bel_startG (bel_two w _ _) (bel_roundG HB.out (by simp) HWA.out) (by omega) (Below.refl _ _)) (by omega)).alloc (by omega) _
          · have hin : i = p.ts.length := by omega
            subst hin
            have hl : (subL d (val (atL L) σ) p).ts.length = p.ts.length := by simp [subL]
            have HL := hid hl
            clear hl
            go_wp2
            refine bodyPost_ret (v := .tuple #[nodeV (subL d (val (atL L) σ) p) (some ⟨w.heap.size + 2, 0, none⟩) p.ts.length, .bool true]) (by simp [results, Try.results8, go_sem, nodeV, r0, r1, r2, r3, subL]) rfl ⟨true, _, _, _, rfl, ?_, ?_, SB.node HK.out⟩
            · have HPT' : Part wr (w.heap.size + 2) (subL d (val (atL L) σ) p).ts.length (subL d (val (atL L) σ) p).ts.length (fun g => P g ∨ w.heap.size + 3 ≤ g) (D + 1 + d) (atL (subL d (val (atL L) σ) p).ts) := by rw [HL.out]; exact HPT.out
              have R := HPT'.rep (Q := fun g => P g ∨ w.heap.size + 2 ≤ g) (fun g hg => by
                rcases hg with hg | hg
                · exact .inl hg
                · exact .inr (by omega)) (.inr (Nat.le_refl _)) (by rw [HL.out]; unfold big; exact p2) p3 p4 p5 p6 p7
              rw [HL.out] at R
              have R3 := R.carry (w' := put4 wr (w.heap.size + 1) 0 (.int .u8 p.k) (.string p.s) (.int .i64 p.n) (.slice (some ⟨w.heap.size + 2, 0, none⟩) p.ts.length p.ts.length)) (fun g hg _ => put4_block (fun e : g = w.heap.size + 1 => by
                rcases hg with hg | hg
                · have := hPw _ hg; omega
                · omega))
              exact R3.mono (fun g hg => by
                rcases hg with hg | hg
                · exact .inl hg
                · exact .inr (by omega))
            · exact put4_below (M := w.heap.size + 1) (o := 0) HW.out (by omega)

end Go.Proofs.Qxb6608511a
