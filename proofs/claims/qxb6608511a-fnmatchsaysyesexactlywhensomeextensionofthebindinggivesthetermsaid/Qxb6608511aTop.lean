import Derived.Test.Qxb6608511aLate
/-
  The law (3).
-/
namespace Go.Proofs.Qxb6608511a
open Go.RowKit
set_option linter.unusedVariables false

/-- The law says true, and nothing that was there has turned. -/
def Law (w : World) : Ending → World → Prop := fun e w' => e = .returned (.bool true) ∧ Below w.heap.size w w'

set_option maxHeartbeats 1000000 in
set_option maxRecDepth 100000 in
theorem top_big (L : List Tm) (a : Option Addr) (c : Nat) (p t : Tm) (pa : Option Addr) (pc : Nat) (ta : Option Addr) (tc : Nat) (v : Value) (w : World) (hn : 4096 < L.length) : Calls Try.prog 3 #[.slice a L.length c, nodeV p pa pc, nodeV t ta tc, v] w (Law w) := by
  unfold nodeV
  go_enter Try.func3, Try.ntmps3
  go_wp2
  go_ret
  exact ⟨rfl, bel_two _ _ _⟩

set_option maxHeartbeats 1000000 in
set_option maxRecDepth 100000 in
theorem top_nil (L : List Tm) (a : Option Addr) (c : Nat) (p t : Tm) (pa : Option Addr) (pc : Nat) (ta : Option Addr) (tc : Nat) (w : World) (hn : L.length ≤ 4096) : Calls Try.prog 3 #[.slice a L.length c, nodeV p pa pc, nodeV t ta tc, .pointer none] w (Law w) := by
  unfold nodeV
  go_enter Try.func3, Try.ntmps3
  go_wp2
  go_ret
  exact ⟨rfl, bel_two _ _ _⟩

set_option maxHeartbeats 1000000 in
set_option maxRecDepth 100000 in
theorem top_long (L : List Tm) (a : Option Addr) (c : Nat) (p t : Tm) (pa : Option Addr) (pc : Nat) (ta : Option Addr) (tc : Nat) (w : World) (hn : L.length ≤ 4096) (tb tof : Nat) (oa : Option Addr) (lt ct : Nat) (hq : w.cell? ⟨tb, tof, none⟩ = some (.slice oa lt ct)) (hl : 4096 < lt) : Calls Try.prog 3 #[.slice a L.length c, nodeV p pa pc, nodeV t ta tc, .pointer (some ⟨tb, tof, none⟩)] w (Law w) := by
  have htb := cell_lt hq
  unfold nodeV
  go_enter Try.func3, Try.ntmps3
  go_wp2
  go_ret
  exact ⟨rfl, bel_two _ _ _⟩

theorem alloc_four {w : World} {x0 x1 x2 x3 : Value} {e : TypeId} : Four (w.alloc (.cells #[x0, x1, x2, x3] e)) w.heap.size 0 (.agg #[x0, x1, x2, x3]) :=
  ⟨x0, x1, x2, x3, rfl, by rw [alloc_cell]; rfl, by rw [alloc_cell]; rfl, by rw [alloc_cell]; rfl, by rw [alloc_cell]; rfl⟩

theorem mid_make {w wa wb wc wd : World} {D n : Nat} {f : Nat → Tm} {p t : Tm} {pa : Option Addr} {pc : Nat} {ta : Option Addr} {tc : Nat} {xa : Option Addr} {xc : Nat} {ya : Option Addr} {yc : Nat} (hw : Below w.heap.size w wa) (f5 : Four wa w.heap.size 0 (nodeV p pa pc)) (f6 : Four wa (w.heap.size + 1) 0 (nodeV t ta tc))
    (hrow : Part wb wa.heap.size n n (fun g => wa.heap.size < g) (D + 1) f) (hgrow : wa.heap.size < wb.heap.size) (hb : Below wa.heap.size wa wb) (hc : Below wb.heap.size wb wc) (r10 : Rep wc (fun g => wb.heap.size ≤ g) (D + 1) p (nodeV p xa xc))
    (hd : Below (wc.alloc (.cells #[.int .u8 p.k, .string p.s, .int .i64 p.n, .slice xa p.ts.length xc] 32)).heap.size (wc.alloc (.cells #[.int .u8 p.k, .string p.s, .int .i64 p.n, .slice xa p.ts.length xc] 32)) wd) (r11 : Rep wd (fun g => (wc.alloc (.cells #[.int .u8 p.k, .string p.s, .int .i64 p.n, .slice xa p.ts.length xc] 32)).heap.size ≤ g) (D + 1) t (nodeV t ya yc)) :
    Mid w (wd.alloc (.cells #[.int .u8 t.k, .string t.s, .int .i64 t.n, .slice ya t.ts.length yc] 32)) D p t pa pc ta tc xa xc ya yc wa.heap.size wc.heap.size wd.heap.size ∧ Part (wd.alloc (.cells #[.int .u8 t.k, .string t.s, .int .i64 t.n, .slice ya t.ts.length yc] 32)) wa.heap.size n n (fun g => wa.heap.size < g ∧ g < wd.heap.size) (D + 1) f := by
  have s1 := hb.size
  have s2 := hc.size
  have s3 := hd.size
  simp only [World.size_alloc] at s3
  have e1 : Below wc.heap.size wc wd := (bel_one wc _).trans (hd.mono (by simp))
  have e2 : Below wb.heap.size wb wd := hc.trans (e1.mono s2)
  have e3 : Below wa.heap.size wa wd := hb.trans (e2.mono s1)
  have ed := bel_one wd (.cells #[.int .u8 t.k, .string t.s, .int .i64 t.n, .slice ya t.ts.length yc] 32)
  have lt6 : w.heap.size + 1 < wa.heap.size := by obtain ⟨_, _, _, _, _, h, _⟩ := f6.ex; exact cell_lt h
  refine ⟨⟨hw.trans ((e3.trans (ed.mono (by omega))).mono (by omega)), ?_, ?_, ?_, alloc_four, ?_, ?_, lt6, by omega, by omega, by simp⟩, ?_⟩
  · exact (f5.carry (e3.block _ (by omega))).carry (ed.block _ (by omega))
  · exact (f6.carry (e3.block _ (by omega))).carry (ed.block _ (by omega))
  · have h0 : Four (wc.alloc (.cells #[.int .u8 p.k, .string p.s, .int .i64 p.n, .slice xa p.ts.length xc] 32)) wc.heap.size 0 (nodeV p xa xc) := alloc_four
    exact (h0.carry (hd.block _ (by simp))).carry (ed.block _ (by omega))
  · exact ((r10.lt.mono (fun g hg => (⟨by omega, by omega⟩ : wa.heap.size < g ∧ g < wd.heap.size))).below e1).below ed
  · exact (r11.lt.mono (fun g hg => (⟨by have := hg.1; simp at this; omega, hg.2⟩ : wa.heap.size < g ∧ g < wd.heap.size))).below ed
  · exact ((hrow.mono (Q := fun g => wa.heap.size < g ∧ g < wd.heap.size) (fun g h1 h2 => ⟨h2, by omega⟩)).carry hgrow e2).carry (by omega) ed

theorem copy_step {W wr : World} {A T n i : Nat} {v u : Value} (harr : Arr wr A n) (hcT : wr.cell? ⟨T, 0, none⟩ = some u) (hfT : wr.frozen? ⟨T, 0, none⟩ = false) (hbut : But (fun g => g = A) W wr) (hne : T ≠ A) :
    Arr (wr.setCell ⟨A, i, none⟩ v).drew A n ∧ (wr.setCell ⟨A, i, none⟩ v).drew.cell? ⟨T, 0, none⟩ = some u ∧ (wr.setCell ⟨A, i, none⟩ v).drew.frozen? ⟨T, 0, none⟩ = false ∧ But (fun g => g = A) W (wr.setCell ⟨A, i, none⟩ v).drew := by
  have h1 := harr.set (k := i) v
  have h2 : But (fun g => g = A) W (wr.setCell ⟨A, i, none⟩ v) := hbut.setCell (p := ⟨A, i, none⟩) (Eq.refl A) v
  have hb : (wr.setCell ⟨A, i, none⟩ v).heap[T]? = wr.heap[T]? := Below.heap_setCell _ _ _ _ hne
  exact ⟨h1.below (Below.refl _ _).drew, (World.cell?_of_block (w := wr) (w' := wr.setCell ⟨A, i, none⟩ v) (a := ⟨T, 0, none⟩) hb).trans hcT, (World.frozen?_of_block (w := wr) (w' := wr.setCell ⟨A, i, none⟩ v) (a := ⟨T, 0, none⟩) hb).trans hfT, h2.trans (But.of_below (Below.refl _ _).drew)⟩

theorem late_make {w wr W6 we : World} {D : Nat} {p t : Tm} {pa : Option Addr} {pc : Nat} {ta : Option Addr} {tc : Nat} {xa : Option Addr} {xc : Nat} {ya : Option Addr} {yc : Nat} {B X1 X2 n T A c : Nat} {L σ : Nat → Tm} (hm : Mid w wr D p t pa pc ta tc xa xc ya yc B X1 X2) (hbc : Part wr B n n (fun g => B < g ∧ g < X2) (D + 1) L) (htr : Tr wr T A c) (xT : X2 < T) (xA : X2 < A) (hta : T ≠ A) (hW : Below wr.heap.size wr W6) (hs : wr.heap.size < W6.heap.size)
    (k1 : Part we wr.heap.size n n (fun g => g < w.heap.size) (D + 1) σ) (k3 : But (fun g => g = wr.heap.size ∨ g = wr.heap.size + 1) W6 we) : Late w we D p t pa pc ta tc xa xc ya yc B X1 X2 n T A c wr.heap.size L σ := by
  have o1 := hm.o1
  have o2 := hm.o2
  have o3 := hm.o3
  have o4 := hm.o4
  obtain ⟨l1, l2⟩ := htr.lt
  have hs2 := hW.size
  exact ⟨(hm.below hW).but k3 (fun g hg => by omega), (hbc.carry (by omega) hW).but (by omega) k3 (by omega) (fun g hg e => by omega), (htr.but (X := fun _ => False) (But.of_below hW) (fun h => h) (fun h => h)).but k3 (by omega) (by omega), k1, xT, xA, o4, hta, by omega, by omega, Nat.lt_of_lt_of_le hs k3.size⟩

set_option maxHeartbeats 4000000 in
set_option maxRecDepth 100000 in
theorem top_any (D : Nat) (L : List Tm) (a : Option Addr) (c : Nat) (p t : Tm) (pa : Option Addr) (pc : Nat) (ta : Option Addr) (tc : Nat) (w : World) (P : Nat → Prop) (HL : Rep w P (D + 1 + 1) (rowT L) (nodeV (rowT L) a c)) (hp : Rep w P (D + 1) p (nodeV p pa pc)) (ht : Rep w P (D + 1) t (nodeV t ta tc))
    (hn : L.length ≤ 4096) (tb tof : Nat) (oa : Option Addr) (lt ct : Nat) (hq : w.cell? ⟨tb, tof, none⟩ = some (.slice oa lt ct)) (hl : lt ≤ 4096) (hct : lt ≤ ct) (hel : ∀ k, k < lt → ∃ g o x, oa = some ⟨g, o, none⟩ ∧ w.cell? ⟨g, o + k, none⟩ = some (.int .i64 x)) :
    Calls Try.prog 3 #[.slice a L.length c, nodeV p pa pc, nodeV t ta tc, .pointer (some ⟨tb, tof, none⟩)] w (Law w) := by
  have htb := cell_lt hq
  have CF := hid (fun w' (hw : Below w.heap.size w w') => fits_any D L a c p t _ _ w' P (HL.below hw) (hp.below hw) (ht.below hw) tb tof oa lt ct ((hw.cell (p := ⟨tb, tof, none⟩) htb).trans hq) hn hl)
  have HPR := hid (hp.lt.mono (Q := fun g => g < w.heap.size) (fun _ h => h.2))
  have HTR := hid (ht.lt.mono (Q := fun g => g < w.heap.size) (fun _ h => h.2))
  have HLR := hid (HL.lt.mono (Q := fun g => g < w.heap.size) (fun _ h => h.2))
  clear hp ht HL
  unfold nodeV at CF
  unfold nodeV
  go_enter Try.func3, Try.ntmps3
  go_wp2_with fail
  refine (CF.out _ (bel_two w _ _)).mono ?_
  rintro e wa ⟨b, rfl, hyes, hwa⟩
  have HW := hid ((bel_two w _ _).trans (hwa.mono (by simp; omega)))
  have HY := hid hyes
  have g0 := hwa.cell (p := ⟨w.heap.size, 0, none⟩) (by simp; omega)
  have g1 := hwa.cell (p := ⟨w.heap.size, 1, none⟩) (by simp; omega)
  have g2 := hwa.cell (p := ⟨w.heap.size, 2, none⟩) (by simp; omega)
  have g3 := hwa.cell (p := ⟨w.heap.size, 3, none⟩) (by simp; omega)
  have r0 := hwa.cell (p := ⟨w.heap.size + 1, 0, none⟩) (by simp)
  have r1 := hwa.cell (p := ⟨w.heap.size + 1, 1, none⟩) (by simp)
  have r2 := hwa.cell (p := ⟨w.heap.size + 1, 2, none⟩) (by simp)
  have r3 := hwa.cell (p := ⟨w.heap.size + 1, 3, none⟩) (by simp)
  simp [go_sem] at g0 g1 g2 g3 r0 r1 r2 r3
  have hs := hwa.size
  simp at hs
  clear hwa hyes CF
  cases b with
  | false =>
    go_wp2
    go_ret
    exact ⟨rfl, HW.out⟩
  | true =>
    have HF5 : Hid (Four wa w.heap.size 0 (nodeV p pa pc)) := ⟨_, _, _, _, rfl, g0, g1, g2, g3⟩
    have HF6 : Hid (Four wa (w.heap.size + 1) 0 (nodeV t ta tc)) := ⟨_, _, _, _, rfl, r0, r1, r2, r3⟩
    have HY2 := hid (HY.out rfl)
    clear HY g0 g1 g2 g3 r0 r1 r2 r3
    have CT := hid (terms_made (D + 1) L a c wa _ (HLR.out.below HW.out))
    go_wp2_with fail
    refine CT.out.mono ?_
    rintro e wb ⟨rfl, hrow, hgrow, hwb⟩
    have HROW := hid hrow
    have HGROW := hid hgrow
    have HWB := hid hwb
    obtain ⟨g0, g1, g2, g3⟩ := (HF5.out.carry (hwb.block _ (by omega))).cells
    have CP := hid (to_any (D + 1) p _ wb _ ((HPR.out.below HW.out).below hwb))
    unfold nodeV at CP
    clear hrow hgrow hwb CT
    go_wp2_with fail
    refine CP.out.mono ?_
    rintro e wc ⟨xa, xc, rfl, hrep, hwc⟩
    have HWC := hid hwc
    have HR10 := hid hrep
    have hs1 := HWB.out.size
    have hs2 := hwc.size
    have hT1 : Below w.heap.size w wc := HW.out.trans ((HWB.out.mono (by omega)).trans (hwc.mono (by omega)))
    have CQ := hid (to_any (D + 1) t _ (wc.alloc (.cells #[.int .u8 p.k, .string p.s, .int .i64 p.n, .slice xa p.ts.length xc] 32)) _ ((HTR.out.below hT1).below (bel_one _ _)))
    obtain ⟨r0, r1, r2, r3⟩ := ((HF6.out.carry (HWB.out.block _ (by omega))).carry (hwc.block _ (by omega))).cells
    have z6 : w.heap.size + 1 < wc.heap.size := by omega
    unfold nodeV at CQ
    unfold nodeV
    clear hrep hwc CP g0 g1 g2 g3
    go_wp2_with fail
    refine CQ.out.mono ?_
    rintro e wd ⟨ya, yc, rfl, hrep, hwd⟩
    obtain ⟨hmid, hbc⟩ := mid_make HW.out HF5.out HF6.out HROW.out HGROW.out HWB.out HWC.out HR10.out hwd hrep
    have HMID := hid hmid
    have HBC := hid hbc
    have hq2 := (HMID.out.old.cell (p := ⟨tb, tof, none⟩) htb).trans hq
    unfold nodeV
    clear hmid hbc hrep hwd CQ r0 r1 r2 r3 HROW HGROW HWB HWC HR10 HF5 HF6
    generalize hW2 : wd.alloc (.cells #[.int .u8 t.k, .string t.s, .int .i64 t.n, .slice ya t.ts.length yc] 32) = W2 at *
    have hmk3 := fun w => make3 w lt hl
    go_wp2
    go_loopw [14] (fun v14 wx => ∃ i : Nat, v14 = .int .i64 i ∧ i ≤ lt ∧ Arr wx W2.heap.size lt ∧ wx.cell? ⟨W2.heap.size + 1, 0, none⟩ = some (.slice (some ⟨W2.heap.size, 0, none⟩) lt lt) ∧ wx.frozen? ⟨W2.heap.size + 1, 0, none⟩ = false ∧ But (fun g => g = W2.heap.size) ((W2.alloc (.cells (madeCells #[.int .i64 0] lt) 3)).alloc (.cells #[.slice (some ⟨W2.heap.size, 0, none⟩) lt lt] 26)) wx) (fun v14 _ => lt - (intOf v14).toNat)
    case atStart => exact ⟨0, rfl, Nat.zero_le _, (Arr.made W2 lt).below (bel_one _ _), by simp [go_sem], by simp [go_sem], But.refl _ _⟩
    case round =>
      obtain ⟨i, rfl, hi, harr, hcT, hfT, hbut⟩ := hrel
      have HARR := hid harr
      have HBUT := hid hbut
      have o1 := HMID.out.o1
      have o2 := HMID.out.o2
      have o3 := HMID.out.o3
      have o4 := HMID.out.o4
      by_cases hlt : i < lt
      · obtain ⟨g, o, x, hoa, hx⟩ := hel i hlt
        have hgw := cell_lt hx
        have hx2 := (HMID.out.old.cell (p := ⟨g, o + i, none⟩) hgw).trans hx
        have hx3 := ((bel_two W2 (.cells (madeCells #[.int .i64 0] lt) 3) (.cells #[.slice (some ⟨W2.heap.size, 0, none⟩) lt lt] 26)).cell (p := ⟨g, o + i, none⟩) (by show g < _; omega)).trans hx2
        have hx4 := (hbut.cell (p := ⟨g, o + i, none⟩) (by show g < _; simp; omega) (by show ¬ g = _; omega)).trans hx3
        obtain ⟨y0, hy0⟩ := harr.cell hlt
        have hf0 := harr.free (k := i)
        have hne : g ≠ W2.heap.size := by omega
        have hsz := hbut.size
        simp at hsz
        have hneT : W2.heap.size + 1 ≠ W2.heap.size := by omega
        subst hoa
        clear harr hbut hx hx2 hx3
        go_wp2_with fail
        go_region
        all_goals
          go_wp2
          go_round
          case rel =>
            obtain ⟨e1, e2, e3, e4⟩ := copy_step (i := i) (v := .int .i64 x) HARR.out hcT hfT HBUT.out hneT
            exact ⟨i + 1, by go_num, by omega, e1, e2, e3, e4⟩
          case measure => simp [intOf]; omega
      · have HM5 := hid ((HMID.out.below (bel_two W2 _ _)).but hbut (fun g hg => .inr (by rw [hg]; exact o4)))
        have HBC5 := hid ((HBC.out.carry (by omega) (bel_two W2 _ _)).but (by simp; omega) hbut (by omega) (fun g hg e => by omega))
        have HTR5 := hid (harr.tr hl hcT hfT)
        have hsz := hbut.size
        simp at hsz
        have hmk24 := fun w => make24 w L.length (by omega)
        have hmk4 := fun w => make4 w L.length hn
        clear harr hbut hcT hfT HARR HBUT HMID HBC hmk3 hq2 hel
        obtain ⟨τ, hτ⟩ : ∃ τ, Some' D (atL L) p t → Ext (atL L) τ ∧ sbT (D + 1) τ p = t := by
          by_cases hex : Some' D (atL L) p t
          · obtain ⟨τ, h⟩ := hex
            exact ⟨τ, fun _ => h⟩
          · exact ⟨fun _ => zT, fun h => absurd h hex⟩
        have HTAU := hid hτ
        clear hτ
        obtain ⟨g0, g1, g2, g3⟩ := HM5.out.f5.cells
        obtain ⟨r0, r1, r2, r3⟩ := HM5.out.f6.cells
        have z5 : w.heap.size < wr.heap.size := by omega
        have z6 : w.heap.size + 1 < wr.heap.size := by omega
        have z5' : w.heap.size < wr.heap.size + 1 := by omega
        have z6' : w.heap.size + 1 < wr.heap.size + 1 := by omega
        have HO := hid HM5.out.old
        have CL := hid (last_any L τ a c (fun g => g < w.heap.size) wr.heap.size (wr.heap.size + 1) D (by omega) (by omega) (by omega) hn (D + 1) p _ t _ true ((wr.alloc (.cells (zeros L.length) 24)).alloc (.cells (madeCells #[.bool false] L.length) 4)) (fun _ => zT) (fun _ => false)
          ((HPR.out.below HO.out).below (bel_two _ _ _)) ((HTR.out.below HO.out).below (bel_two _ _ _)) ((HLR.out.below HO.out).below (bel_two _ _ _)) HY2.out.2.1 ((part_full wr L.length _ D).carry (by simp) (bel_one _ _)) (by have := hav_zero (wr.alloc (.cells (zeros L.length) 24)) L.length; simp only [World.size_alloc] at this; exact this) (by simp; omega) (by simp))
        unfold nodeV at CL
        go_wp2_with fail
        refine CL.out.mono ?_
        rintro e we ⟨rfl, σ, hv, k1, k2, k3, k4⟩
        have HLT := hid (late_make HM5.out HBC5.out HTR5.out (by omega) o4 (by omega) (bel_two wr _ _) (by simp; omega) k1 k3)
        have hV : wr.heap.size + 1 < we.heap.size := Nat.lt_of_lt_of_le (by simp) k3.size
        have HHAV := hid k2
        have HLP := hid k4
        have hT : W2.heap.size + 1 ≠ wr.heap.size := by omega
        clear k1 k2 k3 k4 CL g0 g1 g2 g3 r0 r1 r2 r3 HM5 HBC5 HTR5 z5 z6 z5' z6' HO hmk24 hmk4
        generalize hSe : wr.heap.size = S at *
        generalize hTe : W2.heap.size + 1 = T at *
        generalize hAe : W2.heap.size = A at *
        generalize hBe : wa.heap.size = B at *
        generalize hX1 : wc.heap.size = X1 at *
        generalize hX2 : wd.heap.size = X2 at *
        obtain ⟨g0, g1, g2, g3⟩ := HLT.out.mid.f5.cells
        have CS := hid (subst_any L a c S (S + 1) D σ hv (fun g => g < w.heap.size) hn (D + 1) p _ we (HPR.out.below HLT.out.mid.old) (HLR.out.below HLT.out.mid.old) HY2.out.2.1 HLT.out.sig HHAV.out HLT.out.lS hV (fun g hg => Nat.lt_of_lt_of_le hg HLT.out.mid.old.size))
        unfold nodeV at CS
        go_wp2_with fail
        refine CS.out.mono ?_
        rintro e wf ⟨ok, r, ra, rc, rfl, hrep, hwf, hsb⟩
        have HLF := hid (HLT.out.below hwf)
        have HRR := hid hrep
        have HSB := hid hsb
        clear hrep hwf hsb CS HLT g0 g1 g2 g3 hSe hTe hAe hBe hX1 hX2 hW2 hs hs1 hs2 o1 o2 o3 o4 hsz hT hT1
        have HFR : Hid (lt + fr L.length (atL L) ≤ 8192) := by show _ ≤ _; have := fr_le (atL L) L.length; omega
        have z6 : w.heap.size + 1 < wf.heap.size := by have := HLF.out.mid.o1; have := HLF.out.mid.o2; have := HLF.out.mid.o3; have := HLF.out.mid.o4; omega
        have zX1 : X1 < wf.heap.size := by have := HLF.out.mid.o3; have := HLF.out.mid.o4; omega
        have zX2 : X2 < wf.heap.size := HLF.out.mid.o4
        obtain ⟨s0, s1, s2, s3⟩ := HLF.out.mid.f6.cells
        have HL7 := hid (HLF.out.below (bel_one wf (.cells #[.int .u8 r.k, .string r.s, .int .i64 r.n, .slice ra r.ts.length rc] 24)))
        have hE := eqZ_any (D + 1 + (D + 1)) r t _ _ (wf.alloc (.cells #[.int .u8 r.k, .string r.s, .int .i64 r.n, .slice ra r.ts.length rc] 24)) _ _ (HRR.out.below (bel_one _ _)) ((HTR.out.below HL7.out.mid.old).le (by omega))
        unfold nodeV at hE
        unfold nodeV
        by_cases hex : Some' D (atL L) p t
        · obtain ⟨t1, t2⟩ := HTAU.out hex
          obtain ⟨a1, a2⟩ := HLP.out.agree rfl t2 (fun j h => by cases h)
          obtain ⟨rfl, hrt⟩ := sub_yes t1 t2 a1 a2 HSB.out
          have hq : eqT (D + 1 + (D + 1)) r t = true := (eqT_iff HRR.out.fit t).2 hrt
          rw [hq] at hE
          have CE := hid hE
          have HEX := hid hex
          clear hE hq hrt t1 t2 a1 a2 hex HTAU HLP
          go_wp2_with fail
          refine CE.out.mono ?_
          rintro e wg ⟨rfl, hwg⟩
          have HLG := hid (HL7.out.below hwg)
          clear hwg CE HL7 s0 s1 s2 s3
          have hZ := zz_any D B T L.length (fun g => B < g ∧ g < X2) (D + 1) A (atL L) lt p t xa xc ya yc wg HLG.out.mid.r10 HLG.out.mid.r11 HY2.out.2.1 ⟨_, HY2.out.2.2⟩ (HLG.out.min hn HFR.out)
          unfold nodeV at hZ
          have CZ := hid hZ
          clear hZ
          obtain ⟨g0, g1, g2, g3⟩ := HLG.out.mid.f10.cells
          obtain ⟨r0, r1, r2, r3⟩ := HLG.out.mid.f11.cells
          go_wp2_with fail
          refine CZ.out.mono ?_
          rintro e wh ⟨y, L1, c1, A1, rfl, k1, k2, k3, k4, k5, k6⟩
          obtain rfl := mt_yes k6 HEX.out
          have HLH := hid (HLG.out.matched k1 k2 k3 k4)
          have HMT := hid k6
          have HC1 : Hid (c1 + fr L.length L1 ≤ 8192) := Nat.le_trans k5 HFR.out
          clear k1 k2 k3 k4 k5 k6 CZ g0 g1 g2 g3 r0 r1 r2 r3 HFR HLG HHAV hV HRR HSB HLF z6 zX1 zX2 HEX
          have hmk24 := fun w => make24 w L.length (by omega)
          go_wp2
          go_loopw [23] (fun v23 wx => ∃ i : Nat, v23 = .int .i64 i ∧ i ≤ L.length ∧ Part wx wh.heap.size L.length i (fun g => wh.heap.size < g) (D + 1) L1 ∧ wh.heap.size < wx.heap.size ∧ Below wh.heap.size wh wx) (fun v23 _ => L.length - (intOf v23).toNat)
          case atStart => exact ⟨0, rfl, Nat.zero_le _, part_zero24 wh _ rfl _ _ _, by simp, (Below.refl _ _).alloc (Nat.le_refl _) _⟩
          case round =>
            obtain ⟨j, rfl, hj, hpart, hgrow, hbel⟩ := hrel
            have HB := hid hbel
            have HLX := hid (HLH.out.below hbel)
            have zB : B < wh.heap.size := by have := HLH.out.mid.o2; have := HLH.out.mid.o3; have := HLH.out.mid.o4; omega
            by_cases hlt2 : j < L.length
            · obtain ⟨ba, be, hf, hr⟩ := HLX.out.row.one hlt2
              obtain ⟨c0, c1', c2, c3⟩ := hf.cells
              have hC := from_any (D + 1) (L1 j) _ wr _ hr
              unfold nodeV at hC
              have C := hid hC
              have HP := hid hpart
              clear hC hf hr hpart hbel
              go_wp2_with fail
              refine C.out.mono ?_
              rintro e wy ⟨a', c', rfl, hrep, hwy⟩
              have hpa := HP.out.carry hgrow hwy
              obtain ⟨y0, z0⟩ := hpa.there (j * 4) (by omega)
              obtain ⟨y1, z1⟩ := hpa.there (j * 4 + 1) (by omega)
              obtain ⟨y2, z2⟩ := hpa.there (j * 4 + 2) (by omega)
              obtain ⟨y3, z3⟩ := hpa.there (j * 4 + 3) (by omega)
              have f0 := hpa.free (j * 4)
              have f1 := hpa.free (j * 4 + 1)
              have f2 := hpa.free (j * 4 + 2)
              have f3 := hpa.free (j * 4 + 3)
              have HPA := hid hpa
              have HRP := hid hrep
              have HWY := hid hwy
              clear hpa hrep hwy C HP c0 c1' c2 c3
              unfold nodeV
              go_wp2
              go_round
              case rel =>
                refine ⟨j + 1, by go_num, by omega, ?_, ?_, ?_⟩
                · have := HPA.out.put (x0 := .int .u8 (L1 j).k) (x1 := .string (L1 j).s) (x2 := .int .i64 (L1 j).n) (x3 := .slice a' (L1 j).ts.length c') hlt2 (by simp) (HRP.out.mono (fun g hg => by omega))
                  exact this
                · exact Nat.lt_of_lt_of_le (Nat.lt_of_lt_of_le hgrow HWY.out.size) (put4_below (B := 0) (M := wh.heap.size) (o := j * 4) (Below.refl 0 wy) (Nat.zero_le _)).size
                · exact put4_below (M := wh.heap.size) (o := j * 4) (HB.out.trans (HWY.out.mono HB.out.size)) (Nat.le_refl _)
              case measure => simp [intOf]; omega
            · have hjn : j = L.length := by omega
              have HAF : Hid (Part wr wh.heap.size L.length L.length (fun g => wh.heap.size < g) (D + 1) L1) := hjn ▸ hpart
              have hTA := HLH.out.tr.lt
              clear hpart hbel HB
              have hmk4 := fun w => make4 w L.length hn
              have hb9 := bel_one wr (.cells (madeCells #[.bool false] L.length) 4)
              have hs9 : (wr.alloc (.cells (madeCells #[.bool false] L.length) 4)).heap.size = wr.heap.size + 1 := by simp
              have HL9 := hid (HLX.out.below hb9)
              have hS := subst_any (listN L.length L1) (some ⟨wh.heap.size, 0, none⟩) L.length S wr.heap.size D σ (fun _ => false) (fun g => g < wr.heap.size + 1) (by rw [len_listN]; exact hn) (D + 1) p _ (wr.alloc (.cells (madeCells #[.bool false] L.length) 4)) ((HPR.out.below HL9.out.mid.old).mono (fun g hg => by have := HL9.out.mid.old.size; omega)) (((HAF.out.carry hgrow hb9).mono (Q := fun g => g < wr.heap.size + 1) (fun g h1 h2 => by omega)).rowRep hn (fun _ h => h) (by omega)) (by rw [len_listN]; exact HY2.out.2.1) (by rw [len_listN]; exact HL9.out.sig.mono (fun g h1 h2 => by omega)) (by rw [len_listN]; exact hav_zero wr L.length) HL9.out.lS (by omega) (fun g hg => by omega)
              rw [len_listN] at hS
              unfold nodeV at hS
              have CS := hid hS
              obtain ⟨g0, g1, g2, g3⟩ := HLX.out.mid.f5.cells
              have z5 : w.heap.size < wr.heap.size := by have := HLX.out.mid.o1; have := HLX.out.mid.o2; have := HLX.out.mid.o3; have := HLX.out.mid.o4; omega
              clear hS
              go_wp2_with fail
              refine CS.out.mono ?_
              rintro e wj ⟨ok2, r', ra', rc', rfl, hrep, hwj, hsb⟩
              obtain ⟨rfl, hrt⟩ := sub_after HY2.out.2.1 HMT.out hsb
              have HLJ := hid (HL9.out.below hwj)
              have HAJ := hid ((HAF.out.carry hgrow hb9).carry (by omega) hwj)
              have hgj : wh.heap.size < wj.heap.size := by have := hwj.size; omega
              have hE := eqZ_any (D + 1 + (D + 1)) r' t _ _ (wj.alloc (.cells #[.int .u8 r'.k, .string r'.s, .int .i64 r'.n, .slice ra' r'.ts.length rc'] 24)) _ _ (hrep.below (bel_one _ _)) (((HTR.out.below HLJ.out.mid.old).below (bel_one _ _)).le (by omega))
              rw [(eqT_iff hrep.fit t).2 hrt] at hE
              unfold nodeV at hE
              have CE := hid hE
              obtain ⟨s0, s1, s2, s3⟩ := HLJ.out.mid.f6.cells
              have z6 : w.heap.size + 1 < wj.heap.size := by have := HLJ.out.mid.o1; have := HLJ.out.mid.o2; have := HLJ.out.mid.o3; have := HLJ.out.mid.o4; omega
              clear hrep hwj hsb hrt hE CS g0 g1 g2 g3 z5 HL9 HLX HAF hmk4 hb9 hs9
              unfold nodeV
              go_wp2_with fail
              refine CE.out.mono ?_
              rintro e wk ⟨rfl, hwk⟩
              have hb10 := (bel_one wj (.cells #[.int .u8 r'.k, .string r'.s, .int .i64 r'.n, .slice ra' r'.ts.length rc'] 24)).trans (hwk.mono (by simp))
              have HLK := hid (HLJ.out.below hb10)
              have HAK := hid (HAJ.out.carry hgj hb10)
              have hgk : wh.heap.size < wk.heap.size := Nat.lt_of_lt_of_le hgj hb10.size
              obtain ⟨cap1, xs1, hT1, _⟩ := HLK.out.tr.ex
              have hZ := zz_any D B T L.length (fun g => B < g ∧ g < X2) (D + 1) A1 L1 c1 p t xa xc ya yc wk HLK.out.mid.r10 HLK.out.mid.r11 HY2.out.2.1 ⟨_, HY2.out.2.2⟩ (HLK.out.min hn HC1.out)
              unfold nodeV at hZ
              have CZ := hid hZ
              obtain ⟨g0, g1, g2, g3⟩ := HLK.out.mid.f10.cells
              obtain ⟨r0, r1, r2, r3⟩ := HLK.out.mid.f11.cells
              have hc8 : c1 ≤ 8192 := by have := HC1.out; omega
              clear hwk hb10 CE hZ s0 s1 s2 s3 z6 HLJ HAJ hgj
              go_wp2_with fail
              refine CZ.out.mono ?_
              rintro e wl ⟨y2, L2, c2, A2, rfl, k1, k2, k3, k4, k5, k6⟩
              obtain ⟨rfl, rfl, rfl⟩ := mt_again HMT.out k6
              have HLL := hid (HLK.out.matched k1 k2 k3 k4)
              have HAL := hid (HAK.out.but hgk k4 (by omega) (fun g hg e => by omega))
              have hgl : wh.heap.size < wl.heap.size := Nat.lt_of_lt_of_le hgk k4.size
              obtain ⟨cap2, xs2, hT2, _⟩ := HLL.out.tr.ex
              clear k1 k2 k3 k4 k5 k6 CZ g0 g1 g2 g3 r0 r1 r2 r3 hT1 HLK HAK hgk
              go_wp2
              go_loopw [28] (fun v28 wx => ∃ i : Nat, v28 = .int .i64 i ∧ i ≤ L.length ∧ Below wl.heap.size wl wx) (fun v28 _ => L.length - (intOf v28).toNat)
              case atStart => exact ⟨0, rfl, Nat.zero_le _, Below.refl _ _⟩
              case round =>
                obtain ⟨k, rfl, hk, hbel⟩ := hrel
                have HB := hid hbel
                have HLX := hid (HLL.out.below hbel)
                have HAX := hid (HAL.out.carry hgl hbel)
                have hgx : wh.heap.size < wr.heap.size := Nat.lt_of_lt_of_le hgl hbel.size
                have zB : B < wr.heap.size := by have := HLX.out.mid.o2; have := HLX.out.mid.o3; have := HLX.out.mid.o4; omega
                clear hbel
                by_cases hlt3 : k < L.length
                · obtain ⟨ba, be, hf, hr⟩ := HLX.out.row.one hlt3
                  obtain ⟨fa, fe, hf', hr'⟩ := HAX.out.one hlt3
                  obtain ⟨c0, c1', c3, c4⟩ := hf.cells
                  obtain ⟨d0, d1, d2, d3⟩ := hf'.cells
                  have hC := from_any (D + 1) (L2 k) _ wr.drew _ hr.drew
                  unfold nodeV at hC
                  have C := hid hC
                  have CE := hid (fun (w' : World) (a' : Option Addr) (c' : Nat) (hw : Below wr.drew.heap.size wr.drew w') (hrep : Rep w' (fun g => wr.drew.heap.size ≤ g) (D + 1) (L2 k) (nodeV (L2 k) a' c')) => eqZ_any (D + 1) (L2 k) (L2 k) _ _ w' _ _ hrep (hr'.drew.below hw))
                  rw [(eqT_iff hr.fit (L2 k)).2 rfl] at CE
                  unfold nodeV at CE
                  clear hC hf hf' hr hr'
                  go_wp2_with fail
                  go_region_held3 (fun w' => w'.cell? ⟨B, k * 4, none⟩ = some (.int .u8 (L2 k).k) ∧ w'.cell? ⟨B, k * 4 + 1, none⟩ = some (.string (L2 k).s) ∧ w'.cell? ⟨B, k * 4 + 2, none⟩ = some (.int .i64 (L2 k).n) ∧ w'.cell? ⟨B, k * 4 + 3, none⟩ = some (.slice ba (L2 k).ts.length be) ∧ w'.cell? ⟨wh.heap.size, k * 4, none⟩ = some (.int .u8 (L2 k).k) ∧ w'.cell? ⟨wh.heap.size, k * 4 + 1, none⟩ = some (.string (L2 k).s) ∧ w'.cell? ⟨wh.heap.size, k * 4 + 2, none⟩ = some (.int .i64 (L2 k).n) ∧ w'.cell? ⟨wh.heap.size, k * 4 + 3, none⟩ = some (.slice fa (L2 k).ts.length fe)) (first | go_keep | exact ⟨(hwz.cell zB).trans c0, (hwz.cell zB).trans c1', (hwz.cell zB).trans c3, (hwz.cell zB).trans c4, (hwz.cell hgx).trans d0, (hwz.cell hgx).trans d1, (hwz.cell hgx).trans d2, (hwz.cell hgx).trans d3⟩ | exact ⟨(hwy.cell zB).trans c0, (hwy.cell zB).trans c1', (hwy.cell zB).trans c3, (hwy.cell zB).trans c4, (hwy.cell hgx).trans d0, (hwy.cell hgx).trans d1, (hwy.cell hgx).trans d2, (hwy.cell hgx).trans d3⟩) (first | (go_at_call 11; refine C.out.mono ?_; rintro e wy ⟨fa', fe', rfl, hrep, hwy⟩) | (go_at_call 9; refine (CE.out _ _ _ hwy hrep).mono ?_; rintro e wz ⟨rfl, hwz0⟩; have hwz := hwy.trans (hwz0.mono hwy.size)))
                  have HWZ := hid hwz
                  clear hwz hwz0 hwy hrep C CE
                  go_wp2
                  go_round
                  case rel => exact ⟨k + 1, by go_num, by omega, HB.out.trans (((bel_drew HWZ.out)).mono HB.out.size)⟩
                  case measure => simp [intOf]; omega
                · go_wp2
                  go_ret
                  exact ⟨rfl, HLX.out.mid.old⟩
        · rcases sub_no hex HSB.out with rfl | hrt
          · clear hE
            have hZ := zz_any D B T L.length (fun g => B < g ∧ g < X2) (D + 1) A (atL L) lt p t xa xc ya yc _ HL7.out.mid.r10 HL7.out.mid.r11 HY2.out.2.1 ⟨_, HY2.out.2.2⟩ (HL7.out.min hn HFR.out)
            unfold nodeV at hZ
            have CZ := hid hZ
            clear hZ
            obtain ⟨g0, g1, g2, g3⟩ := HLF.out.mid.f10.cells
            obtain ⟨r0, r1, r2, r3⟩ := HLF.out.mid.f11.cells
            clear s0 s1 s2 s3
            have HEX := hid hex
            clear hex
            go_wp2_with fail
            refine CZ.out.mono ?_
            rintro e wh ⟨y, L1, c1, A1, rfl, k1, k2, k3, k4, k5, k6⟩
            obtain rfl := mt_no k6 HEX.out
            have HLH := hid (HL7.out.matched k1 k2 k3 k4)
            clear k1 k2 k3 k4 k5 k6 CZ g0 g1 g2 g3 r0 r1 r2 r3
            go_wp2
            go_ret
            exact ⟨rfl, HLH.out.mid.old⟩
          · have hq : eqT (D + 1 + (D + 1)) r t = false := by
              cases h : eqT (D + 1 + (D + 1)) r t with
              | false => rfl
              | true => exact absurd ((eqT_iff HRR.out.fit t).1 h) hrt
            rw [hq] at hE
            have CE := hid hE
            have HEX := hid hex
            clear hE hq hrt hex
            cases ok with
            | true =>
              go_wp2_with fail
              refine CE.out.mono ?_
              rintro e wg ⟨rfl, hwg⟩
              have HLG := hid (HL7.out.below hwg)
              clear hwg CE HL7 s0 s1 s2 s3
              have hZ := zz_any D B T L.length (fun g => B < g ∧ g < X2) (D + 1) A (atL L) lt p t xa xc ya yc wg HLG.out.mid.r10 HLG.out.mid.r11 HY2.out.2.1 ⟨_, HY2.out.2.2⟩ (HLG.out.min hn HFR.out)
              unfold nodeV at hZ
              have CZ := hid hZ
              clear hZ
              obtain ⟨g0, g1, g2, g3⟩ := HLG.out.mid.f10.cells
              obtain ⟨r0, r1, r2, r3⟩ := HLG.out.mid.f11.cells
              go_wp2_with fail
              refine CZ.out.mono ?_
              rintro e wh ⟨y, L1, c1, A1, rfl, k1, k2, k3, k4, k5, k6⟩
              obtain rfl := mt_no k6 HEX.out
              have HLH := hid (HLG.out.matched k1 k2 k3 k4)
              clear k1 k2 k3 k4 k5 k6 CZ g0 g1 g2 g3 r0 r1 r2 r3
              go_wp2
              go_ret
              exact ⟨rfl, HLH.out.mid.old⟩
            | false =>
              clear CE
              have hZ := zz_any D B T L.length (fun g => B < g ∧ g < X2) (D + 1) A (atL L) lt p t xa xc ya yc _ HL7.out.mid.r10 HL7.out.mid.r11 HY2.out.2.1 ⟨_, HY2.out.2.2⟩ (HL7.out.min hn HFR.out)
              unfold nodeV at hZ
              have CZ := hid hZ
              clear hZ
              obtain ⟨g0, g1, g2, g3⟩ := HLF.out.mid.f10.cells
              obtain ⟨r0, r1, r2, r3⟩ := HLF.out.mid.f11.cells
              clear s0 s1 s2 s3
              go_wp2_with fail
              refine CZ.out.mono ?_
              rintro e wh ⟨y, L1, c1, A1, rfl, k1, k2, k3, k4, k5, k6⟩
              obtain rfl := mt_no k6 HEX.out
              have HLH := hid (HL7.out.matched k1 k2 k3 k4)
              clear k1 k2 k3 k4 k5 k6 CZ g0 g1 g2 g3 r0 r1 r2 r3
              go_wp2
              go_ret
              exact ⟨rfl, HLH.out.mid.old⟩

end Go.Proofs.Qxb6608511a
