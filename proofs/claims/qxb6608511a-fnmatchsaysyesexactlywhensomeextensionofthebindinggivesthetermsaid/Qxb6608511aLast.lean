import Derived.Test.Qxb6608511aPlain
/-
  lastPlaces (7).
-/
namespace Go.Proofs.Qxb6608511a
open Go.RowKit
set_option linter.unusedVariables false

/-- The zero term. -/
abbrev zT : Tm := ⟨0, ⟨#[]⟩, 0, []⟩
theorem zRep (w : World) (P : Nat → Prop) (d : Nat) (a : Option Addr) (c : Nat) : Rep w P (d + 1) zT (nodeV zT a c) := ⟨_, _, rfl, Nat.zero_le _, Nat.zero_le _, by decide, by decide, by decide, by decide, by decide, .inl rfl⟩

/-- What lastPlaces does. -/
structure LP (d : Nat) (L τ : Nat → Tm) (p q : Tm) (has : Bool) (σ : Nat → Tm) (hv : Nat → Bool) (σ' : Nat → Tm) (hv' : Nat → Bool) : Prop where
  mono : ∀ j, hv j = true → hv' j = true
  agree : has = true → sbT d τ p = q → (∀ j, hv j = true → σ j = τ j) → (∀ j, hv' j = true → σ' j = τ j) ∧ onV d (fun v => (L v).k = 3 → hv' v = true) p

/-- lastPlaces' post. -/
def LastPost (w : World) (S V n : Nat) (P : Nat → Prop) (d D : Nat) (L τ : Nat → Tm) (p q : Tm) (has : Bool) (σ : Nat → Tm) (hv : Nat → Bool) : Ending → World → Prop := fun e w' =>
  e = .returned (.tuple #[]) ∧ ∃ σ' hv', Part w' S n n P D σ' ∧ Hav w' V n hv' ∧ But (fun g => g = S ∨ g = V) w w' ∧ LP d L τ p q has σ hv σ' hv'

theorem LP.bound {d : Nat} {L τ : Nat → Tm} {p q : Tm} {has : Bool} {σ : Nat → Tm} {hv : Nat → Bool} {m : Nat} (hk : p.k = 3) (hm : p.n = m) (hl : (L m).k ≠ 3 ∨ has = false) : LP (d + 1) L τ p q has σ hv σ hv := by
  refine ⟨fun _ h => h, fun h1 h2 h3 => ⟨h3, fun _ => ?_, fun e => absurd hk e⟩⟩
  intro h4
  rw [hm] at h4
  rcases hl with hl | hl
  · exact absurd h4 hl
  · rw [hl] at h1; cases h1
theorem LP.free {d : Nat} {L τ : Nat → Tm} {p q : Tm} {σ : Nat → Tm} {hv : Nat → Bool} {m : Nat} (hk : p.k = 3) (hm : p.n = m) : LP (d + 1) L τ p q true σ hv (upd σ m q) (upd hv m true) := by
  have hu : ∀ j, hv j = true → upd hv m true j = true := fun j h => by
    by_cases e : j = m
    · rw [e, upd_same]
    · rw [upd_other _ _ e]; exact h
  refine ⟨hu, fun h1 h2 h3 => ⟨fun j hj => ?_, fun _ => fun _ => ?_, fun e => absurd hk e⟩⟩
  · by_cases e : j = m
    · subst e
      rw [upd_same, ← h2]
      unfold sbT
      simp [hk, hm]
    · rw [upd_other _ _ e] at hj ⊢
      exact h3 j hj
  · rw [hm]; simp [upd]

/-- The first i children done. -/
structure LPs (d : Nat) (L τ : Nat → Tm) (p q : Tm) (has : Bool) (σ : Nat → Tm) (hv : Nat → Bool) (σ' : Nat → Tm) (hv' : Nat → Bool) (i : Nat) : Prop where
  mono : ∀ j, hv j = true → hv' j = true
  agree : has = true → sbT (d + 1) τ p = q → (∀ j, hv j = true → σ j = τ j) → (∀ j, hv' j = true → σ' j = τ j) ∧ ∀ j (h : j < p.ts.length), j < i → onV d (fun v => (L v).k = 3 → hv' v = true) p.ts[j]

theorem kids_len {d : Nat} {τ : Nat → Tm} {p q : Tm} (hk : p.k ≠ 3) (h : sbT (d + 1) τ p = q) : q.ts.length = p.ts.length ∧ ∀ i (h1 : i < p.ts.length) (h2 : i < q.ts.length), sbT d τ p.ts[i] = q.ts[i] := by
  have e : q.ts = p.ts.map (sbT d τ) := by
    rw [← h]
    show (if p.k = 3 then τ p.n.toNat else (⟨p.k, p.s, p.n, p.ts.map (sbT d τ)⟩ : Tm)).ts = _
    rw [if_neg hk]
  exact ⟨by rw [e, List.length_map], fun i h1 h2 => by simp [e]⟩

theorem LPs.step {d : Nat} {L τ : Nat → Tm} {p q : Tm} {has : Bool} {σ : Nat → Tm} {hv : Nat → Bool} {σ' σ2 : Nat → Tm} {hv' hv2 : Nat → Bool} {i : Nat} {c : Tm} {ch : Bool} (h : LPs d L τ p q has σ hv σ' hv' i) (hk : p.k ≠ 3) (hi : i < p.ts.length)
    (hc : has = true → i < q.ts.length → ch = true ∧ q.ts[i]? = some c) (k : LP d L τ p.ts[i] c ch σ' hv' σ2 hv2) : LPs d L τ p q has σ hv σ2 hv2 (i + 1) := by
  refine ⟨fun j hj => k.mono j (h.mono j hj), fun h1 h2 h3 => ?_⟩
  obtain ⟨a1, a2⟩ := h.agree h1 h2 h3
  obtain ⟨e1, e2⟩ := kids_len hk h2
  obtain ⟨c1, c2⟩ := hc h1 (by omega)
  have hiq : i < q.ts.length := by omega
  obtain ⟨b1, b2⟩ := k.agree c1 (by rw [e2 i hi hiq]; rw [List.getElem?_eq_getElem hiq] at c2; injection c2) a1
  refine ⟨b1, fun j hj hji => ?_⟩
  by_cases e : j = i
  · subst e; exact b2
  · exact (a2 j hj (by omega)).weak fun v hv h3 => k.mono v (hv h3)
theorem LPs.done {d : Nat} {L τ : Nat → Tm} {p q : Tm} {has : Bool} {σ : Nat → Tm} {hv : Nat → Bool} {σ' : Nat → Tm} {hv' : Nat → Bool} (h : LPs d L τ p q has σ hv σ' hv' p.ts.length) (hk : p.k ≠ 3) : LP (d + 1) L τ p q has σ hv σ' hv' := by
  refine ⟨h.mono, fun h1 h2 h3 => ?_⟩
  obtain ⟨a1, a2⟩ := h.agree h1 h2 h3
  exact ⟨a1, fun e => absurd e hk, fun _ i hi => a2 i hi hi⟩
theorem LPs.zero {d : Nat} {L τ : Nat → Tm} {p q : Tm} {has : Bool} {σ : Nat → Tm} {hv : Nat → Bool} : LPs d L τ p q has σ hv σ hv 0 :=
  ⟨fun _ h => h, fun _ _ h => ⟨h, fun j _ h => absurd h (Nat.not_lt_zero _)⟩⟩

theorem WF.kid {d : Nat} {mode nb : Int} {t : Tm} (h : WF (d + 1) mode nb t) {i : Nat} (hi : i < t.ts.length) : WF d mode nb t.ts[i] := by
  rcases h with ⟨_, _, h⟩ | ⟨_, _, h⟩ | ⟨_, _, _, h⟩ | ⟨_, h, _⟩
  · omega
  · omega
  · exact h i hi
  · omega
theorem WF.vr {d : Nat} {nb : Int} {t : Tm} (h : WF (d + 1) 2 nb t) (hk : t.k = 3) : 0 ≤ t.n ∧ t.n < nb := by
  rcases h with ⟨h, _⟩ | ⟨h, _⟩ | ⟨h, _⟩ | ⟨_, _, _, h⟩
  · omega
  · omega
  · omega
  · rcases h with h | h
    · omega
    · exact h

theorem But.got {X : Nat → Prop} {w w' : World} (h : But X w.drew w') {b o : Nat} {v : Value} (hc : w.cell? ⟨b, o, none⟩ = some v) (hx : ¬ X b) : w'.cell? ⟨b, o, none⟩ = some v :=
  (h.cell (p := ⟨b, o, none⟩) (cell_lt (w := w) hc) hx).trans hc

theorem last_put {w w3 : World} {S V n m : Nat} {P : Nat → Prop} {D : Nat} {σ : Nat → Tm} {hv : Nat → Bool} {q : Tm} {x0 x1 x2 x3 : Value} (hp : Part w S n n P D σ) (hh : Hav w V n hv) (hS : S < w.heap.size) (hV : V < w.heap.size) (hPS : ¬ P S) (hPV : ¬ P V) (hSV : S ≠ V)
    (hm : m < n) (hr : Rep w P D q (.agg #[x0, x1, x2, x3])) (hb : Below ((put4 w S (m * 4) x0 x1 x2 x3).setCell ⟨V, m, none⟩ (.bool true)).heap.size ((put4 w S (m * 4) x0 x1 x2 x3).setCell ⟨V, m, none⟩ (.bool true)) w3) : Part w3 S n n P D (upd σ m q) ∧ Hav w3 V n (upd hv m true) ∧ But (fun g => g = S ∨ g = V) w w3 := by
  have h1 : But (fun g => g = S ∨ g = V) w (put4 w S (m * 4) x0 x1 x2 x3) := (But.refl _ w).put4 (.inl rfl)
  have h2 : But (fun g => g = S) w (put4 w S (m * 4) x0 x1 x2 x3) := (But.refl _ w).put4 rfl
  have h5 : But (fun g => g = S ∨ g = V) w ((put4 w S (m * 4) x0 x1 x2 x3).setCell ⟨V, m, none⟩ (.bool true)) := h1.setCell (p := ⟨V, m, none⟩) (.inr rfl) _
  have h3 := hp.upd hm hPS hr
  have h4 : But (fun g => g = V) (put4 w S (m * 4) x0 x1 x2 x3) ((put4 w S (m * 4) x0 x1 x2 x3).setCell ⟨V, m, none⟩ (.bool true)) := (But.refl (fun g => g = V) _).setCell (p := ⟨V, m, none⟩) (Eq.refl V) _
  have h6 := h3.but (Nat.lt_of_lt_of_le hS h1.size) h4 hSV (fun g hg e => hPV (by rw [← e]; exact hg))
  have h7 := (hh.but hV h2 (fun e => hSV e.symm)).upd hm true
  exact ⟨h6.carry (Nat.lt_of_lt_of_le hS h5.size) hb, h7.but (Nat.lt_of_lt_of_le hV h5.size) (But.of_below (X := fun _ => False) hb) (fun h => h), h5.trans (But.of_below hb)⟩

set_option maxHeartbeats 1000000 in
set_option maxRecDepth 100000 in
theorem last_any (L : List Tm) (τ : Nat → Tm) (a : Option Addr) (c : Nat) (P : Nat → Prop) (S V D : Nat) (hPS : ¬ P S) (hPV : ¬ P V) (hSV : S ≠ V) (hn : L.length ≤ 4096) : ∀ (d : Nat) (p : Tm) (vp : Value) (q : Tm) (vq : Value) (has : Bool) (w : World) (σ : Nat → Tm) (hv : Nat → Bool),
    Rep w P d p vp → Rep w P (D + 1) q vq → Rep w P (D + 1 + 1) (rowT L) (nodeV (rowT L) a c) → WF d 2 L.length p → Part w S L.length L.length P (D + 1) σ → Hav w V L.length hv → S < w.heap.size → V < w.heap.size →
    Calls Try.prog 7 #[vp, vq, .bool has, .slice a L.length c, .slice (some ⟨S, 0, none⟩) L.length L.length, .slice (some ⟨V, 0, none⟩) L.length L.length] w (LastPost w S V L.length P d (D + 1) (atL L) τ p q has σ hv)
  | 0, _, _, _, _, _, _, _, _, h, _, _, _, _, _, _, _ => h.elim
  | d + 1, p, vp, q, vq, has, w, σ, hv, hp, hq, hL, hwf, hpart, hhav, hS, hV => by
    have IH : Hid (∀ (p : Tm) (vp : Value) (q : Tm) (vq : Value) (has : Bool) (w : World) (σ : Nat → Tm) (hv : Nat → Bool),
      Rep w P d p vp → Rep w P (D + 1) q vq → Rep w P (D + 1 + 1) (rowT L) (nodeV (rowT L) a c) → WF d 2 L.length p → Part w S L.length L.length P (D + 1) σ → Hav w V L.length hv → S < w.heap.size → V < w.heap.size →
      Calls Try.prog 7 #[vp, vq, .bool has, .slice a L.length c, .slice (some ⟨S, 0, none⟩) L.length L.length, .slice (some ⟨V, 0, none⟩) L.length L.length] w (LastPost w S V L.length P d (D + 1) (atL L) τ p q has σ hv)) := last_any L τ a c P S V D hPS hPV hSV hn d
    obtain ⟨pa, pc, rfl, p1, p2, p3, p4, p5, p6, p7⟩ := hp.opn
    obtain ⟨ua, uc, rfl, t1, t2, t3, t4, t5, t6, t7⟩ := hq.opn
    have HPR := hid hp
    have HQR := hid hq
    have HLR := hid hL
    have HWF := hid hwf
    have HP := hid hpart
    have HH := hid hhav
    clear hp hq hL hwf hpart hhav
    unfold big at p2 t2
    by_cases hk : p.k = 3
    · have hk' : (p.k == 3) = true := by simp [hk]
      obtain ⟨v0, v1⟩ := HWF.out.vr hk
      obtain ⟨m, hm⟩ : ∃ m : Nat, p.n = m := ⟨p.n.toNat, by omega⟩
      have hmn : m < L.length := by omega
      have HK := hid hk
      have HM := hid hm
      obtain ⟨b, g, o, ba, be, hbq, hbp, hPg, hg, c0, c1, c2, c3, hkid⟩ := HLR.out.kidV (i := m) hmn
      subst hbp
      have HBQ : Hid (atL L m = b) := by show _ = _; rw [← hbq]; simp [List.getElem?_eq_getElem hmn]
      clear hbq hkid hk c1 c2 c3
      unfold nodeV
      rw [hm]
      clear hm
      by_cases hb3 : b.k = 3
      · have hb3' : (b.k == 3) = true := by simp [hb3]
        clear hb3
        cases has with
        | true =>
          obtain ⟨y0, z0⟩ := HP.out.there (m * 4) (by omega)
          obtain ⟨y1, z1⟩ := HP.out.there (m * 4 + 1) (by omega)
          obtain ⟨y2, z2⟩ := HP.out.there (m * 4 + 2) (by omega)
          obtain ⟨y3, z3⟩ := HP.out.there (m * 4 + 3) (by omega)
          have f0 := HP.out.free (m * 4)
          have f1 := HP.out.free (m * 4 + 1)
          have f2 := HP.out.free (m * 4 + 2)
          have f3 := HP.out.free (m * 4 + 3)
          have x0 := HH.out.get m hmn
          have x1 := HH.out.free m
          go_enter Try.func7, Try.ntmps7
          go_wp2
          obtain ⟨K1, K2, K3⟩ := last_put HP.out HH.out hS hV hPS hPV hSV hmn HQR.out (bel_two _ (.cells #[.int .u8 p.k, .string p.s, .int .i64 m, .slice pa p.ts.length pc] 24) (.cells #[.int .u8 q.k, .string q.s, .int .i64 q.n, .slice ua q.ts.length uc] 24))
          exact bodyPost_ret (v := .tuple #[]) (by simp [results, Try.results7, go_sem]) rfl ⟨rfl, upd σ m q, upd hv m true, K1, K2, K3, LP.free HK.out HM.out⟩
        | false =>
          go_enter Try.func7, Try.ntmps7
          go_wp2
          exact bodyPost_ret (v := .tuple #[]) (by simp [results, Try.results7, go_sem]) rfl ⟨rfl, σ, hv, HP.out.carry hS (bel_two _ _ _), HH.out.but hV (But.of_below (X := fun _ => False) (bel_two _ _ _)) (fun h => h), But.of_below (bel_two _ _ _), LP.bound HK.out HM.out (.inr rfl)⟩
      · have hb3' : (b.k == 3) = false := by simp [hb3]
        have HB3 := hid hb3
        clear hb3
        go_enter Try.func7, Try.ntmps7
        go_wp2
        exact bodyPost_ret (v := .tuple #[]) (by simp [results, Try.results7, go_sem]) rfl ⟨rfl, σ, hv, HP.out.carry hS (bel_two _ _ _), HH.out.but hV (But.of_below (X := fun _ => False) (bel_two _ _ _)) (fun h => h), But.of_below (bel_two _ _ _), LP.bound HK.out HM.out (.inl (by rw [HBQ.out]; exact HB3.out))⟩
    · have hk' : (p.k == 3) = false := by simp [hk]
      have HK := hid hk
      clear hk
      unfold nodeV
      go_enter Try.func7, Try.ntmps7
      go_wp2
      go_loopw [13] (fun v13 wc => ∃ (i : Nat) (σ' : Nat → Tm) (hv' : Nat → Bool), v13 = .int .i64 i ∧ i ≤ p.ts.length ∧ Part wc S L.length L.length P (D + 1) σ' ∧ Hav wc V L.length hv' ∧ But (fun g => g = S ∨ g = V) ((w.alloc (.cells #[.int .u8 p.k, .string p.s, .int .i64 p.n, .slice pa p.ts.length pc] 24)).alloc (.cells #[.int .u8 q.k, .string q.s, .int .i64 q.n, .slice ua q.ts.length uc] 24)) wc ∧ LPs d (atL L) τ p q has σ hv σ' hv' i) (fun v13 _ => p.ts.length - (intOf v13).toNat)
      case atStart => exact ⟨0, σ, hv, rfl, Nat.zero_le _, HP.out.carry hS (bel_two _ _ _), HH.out.but hV (But.of_below (X := fun _ => False) (bel_two _ _ _)) (fun h => h), But.refl _ _, LPs.zero⟩
      case round =>
        obtain ⟨i, σ', hv', rfl, hi, hpart, hhav, hbut, hlps⟩ := hrel
        have ne0 : ¬ (w.heap.size = S ∨ w.heap.size = V) := by omega
        have ne1 : ¬ (w.heap.size + 1 = S ∨ w.heap.size + 1 = V) := by omega
        have b3 := hbut.cell (p := ⟨w.heap.size, 3, none⟩) (by simp; omega) ne0
        have d3 := hbut.cell (p := ⟨w.heap.size + 1, 3, none⟩) (by simp) ne1
        simp [go_sem] at b3 d3
        have HB := hid hbut
        have hsz := hbut.size
        simp at hsz
        have HPT := hid hpart
        have HHV := hid hhav
        have HLS := hid hlps
        have HX : ∀ g, P g → ¬ (g = S ∨ g = V) := fun g hg e => by
          rcases e with e | e
          · exact hPS (e ▸ hg)
          · exact hPV (e ▸ hg)
        have HBW : Hid (But (fun g => g = S ∨ g = V) w wr) := (But.of_below (bel_two w _ _)).trans hbut
        clear hpart hhav hlps hbut
        by_cases hlt : i < p.ts.length
        · obtain ⟨r, g, o, ba, be, hbq, hbp, hPg, hg, c0, c1, c2, c3, hkid⟩ := (HPR.out.but HBW.out HX).kidV (i := i) hlt
          subst hbp
          have HR := hid hbq
          have HKD := hid hkid
          have HWK : Hid (WF d 2 L.length r) := by show WF _ _ _ _; rw [← hbq]; exact HWF.out.kid hlt
          clear hbq hkid
          have HC := hid (fun (u : Tm) (b : Bool) (w : World) (ua : Option Addr) (uc : Nat) (hw : Below wr.heap.size wr w) (hr : Rep w P (D + 1) u (nodeV u ua uc)) =>
            IH.out r (nodeV r ba be) u (nodeV u ua uc) b w.drew σ' hv' (HKD.out.below hw).drew hr.drew ((HLR.out.but HBW.out HX).below hw).drew HWK.out (HPT.out.carry (by omega) (hw.trans (Below.refl _ _).drew)) (HHV.out.but (X := fun _ => False) (by omega) (But.of_below (hw.trans (Below.refl _ _).drew)) (fun h => h)) (Nat.lt_of_lt_of_le (by omega) hw.size) (Nat.lt_of_lt_of_le (by omega) hw.size))
          clear IH
          by_cases hcase : has = true ∧ i < q.ts.length
          · obtain ⟨rfl, hlq⟩ := hcase
            obtain ⟨u, g', o', qa, qe, hbq, hbp, hPg', hg', d0, d1, d2, d4, hkid⟩ := (HQR.out.but HBW.out HX).kidV (i := i) hlq
            subst hbp
            have HU := hid hbq
            have HUD := hid (show Rep wr P (D + 1) u (nodeV u qa qe) from hkid.up)
            clear hbq hkid
            have z0 : w.heap.size < wr.heap.size := by omega
            have z1 : w.heap.size + 1 < wr.heap.size := by omega
            have C := HC.out u true (wr.alloc (.cells #[.int .u8 u.k, .string u.s, .int .i64 u.n, .slice qa u.ts.length qe] 24)) qa qe (bel_one _ _) (HUD.out.below (bel_one _ _))
            unfold nodeV at C
            have HCC := hid C
            clear C
            have nb : ¬ (wr.heap.size = S ∨ wr.heap.size = V) := by omega
            have q0 : (wr.alloc (.cells #[.int .u8 u.k, .string u.s, .int .i64 u.n, .slice qa u.ts.length qe] 24)).cell? ⟨w.heap.size, 3, none⟩ = _ := ((bel_one wr _).cell (p := ⟨w.heap.size, 3, none⟩) z0).trans b3
            have q1 : (wr.alloc (.cells #[.int .u8 u.k, .string u.s, .int .i64 u.n, .slice qa u.ts.length qe] 24)).cell? ⟨g, o + i * 4, none⟩ = _ := ((bel_one wr _).cell (p := ⟨g, o + i * 4, none⟩) hg).trans c0
            have q2 : (wr.alloc (.cells #[.int .u8 u.k, .string u.s, .int .i64 u.n, .slice qa u.ts.length qe] 24)).cell? ⟨g, o + i * 4 + 1, none⟩ = _ := ((bel_one wr _).cell (p := ⟨g, o + i * 4 + 1, none⟩) hg).trans c1
            have q3 : (wr.alloc (.cells #[.int .u8 u.k, .string u.s, .int .i64 u.n, .slice qa u.ts.length qe] 24)).cell? ⟨g, o + i * 4 + 2, none⟩ = _ := ((bel_one wr _).cell (p := ⟨g, o + i * 4 + 2, none⟩) hg).trans c2
            have q4 : (wr.alloc (.cells #[.int .u8 u.k, .string u.s, .int .i64 u.n, .slice qa u.ts.length qe] 24)).cell? ⟨g, o + i * 4 + 3, none⟩ = _ := ((bel_one wr _).cell (p := ⟨g, o + i * 4 + 3, none⟩) hg).trans c3
            have y0 : (wr.alloc (.cells #[.int .u8 u.k, .string u.s, .int .i64 u.n, .slice qa u.ts.length qe] 24)).cell? ⟨wr.heap.size, 0, none⟩ = some (.int .u8 u.k) := by simp [go_sem]
            have y1 : (wr.alloc (.cells #[.int .u8 u.k, .string u.s, .int .i64 u.n, .slice qa u.ts.length qe] 24)).cell? ⟨wr.heap.size, 1, none⟩ = some (.string u.s) := by simp [go_sem]
            have y2 : (wr.alloc (.cells #[.int .u8 u.k, .string u.s, .int .i64 u.n, .slice qa u.ts.length qe] 24)).cell? ⟨wr.heap.size, 2, none⟩ = some (.int .i64 u.n) := by simp [go_sem]
            have y3 : (wr.alloc (.cells #[.int .u8 u.k, .string u.s, .int .i64 u.n, .slice qa u.ts.length qe] 24)).cell? ⟨wr.heap.size, 3, none⟩ = some (.slice qa u.ts.length qe) := by simp [go_sem]
            have HY := hid (And.intro q0 (And.intro q1 (And.intro q2 (And.intro q3 (And.intro q4 (And.intro y0 (And.intro y1 (And.intro y2 y3))))))))
            clear q0 q1 q2 q3 q4 y0 y1 y2 y3
            go_wp2_with fail
            go_region_held3 (fun w' => w'.cell? ⟨w.heap.size, 3, none⟩ = some (.slice (some ⟨g, o, none⟩) p.ts.length pc) ∧ w'.cell? ⟨g, o + i * 4, none⟩ = some (.int .u8 r.k) ∧ w'.cell? ⟨g, o + i * 4 + 1, none⟩ = some (.string r.s) ∧ w'.cell? ⟨g, o + i * 4 + 2, none⟩ = some (.int .i64 r.n) ∧ w'.cell? ⟨g, o + i * 4 + 3, none⟩ = some (.slice ba r.ts.length be) ∧ w'.cell? ⟨wr.heap.size, 0, none⟩ = some (.int .u8 u.k) ∧ w'.cell? ⟨wr.heap.size, 1, none⟩ = some (.string u.s) ∧ w'.cell? ⟨wr.heap.size, 2, none⟩ = some (.int .i64 u.n) ∧ w'.cell? ⟨wr.heap.size, 3, none⟩ = some (.slice qa u.ts.length qe)) (first | go_keep | exact ⟨k3.got HY.out.1 ne0, k3.got HY.out.2.1 (HX _ hPg), k3.got HY.out.2.2.1 (HX _ hPg), k3.got HY.out.2.2.2.1 (HX _ hPg), k3.got HY.out.2.2.2.2.1 (HX _ hPg), k3.got HY.out.2.2.2.2.2.1 nb, k3.got HY.out.2.2.2.2.2.2.1 nb, k3.got HY.out.2.2.2.2.2.2.2.1 nb, k3.got HY.out.2.2.2.2.2.2.2.2 nb⟩) (first | (go_at_call 7; refine HCC.out.mono ?_; rintro e wa ⟨rfl, σ2, hv2, k1, k2, k3, k4⟩))
            have K1 := hid k1
            have K2 := hid k2
            have K3 := hid k3
            have K4 := hid k4
            clear k1 k2 k3 k4 HY HCC HC
            go_wp2
            go_round
            case rel =>
              refine ⟨i + 1, σ2, hv2, by go_num, by omega, K1.out, K2.out, HB.out.trans ((But.of_below ((bel_one wr _).trans (Below.refl _ _).drew)).trans K3.out), HLS.out.step HK.out hlt (fun _ h => ⟨rfl, by rw [List.getElem?_eq_getElem h, HU.out]⟩) (by rw [HR.out]; exact K4.out)⟩
            case measure => simp [intOf]; omega
          · have z0 : w.heap.size < wr.heap.size := by omega
            have z1 : w.heap.size + 1 < wr.heap.size := by omega
            have HCS := hid hcase
            obtain hcase' | hcase' : has = false ∨ (has = true ∧ ¬ i < q.ts.length) := by
              cases has
              · exact .inl rfl
              · exact .inr ⟨rfl, fun h => hcase ⟨rfl, h⟩⟩
            · subst hcase'
              have C := HC.out zT false (wr.alloc (.cells #[.int .u8 0, .string ⟨#[]⟩, .int .i64 0, .slice none 0 0] 24)) none 0 (bel_one _ _) (zRep _ _ _ _ _)
              unfold nodeV at C
              simp only [List.length_nil] at C
              have HCC := hid C
              clear C
              have nb : ¬ (wr.heap.size = S ∨ wr.heap.size = V) := by omega
              have q0 : (wr.alloc (.cells #[.int .u8 0, .string ⟨#[]⟩, .int .i64 0, .slice none 0 0] 24)).cell? ⟨w.heap.size, 3, none⟩ = _ := ((bel_one wr _).cell (p := ⟨w.heap.size, 3, none⟩) z0).trans b3
              have q1 : (wr.alloc (.cells #[.int .u8 0, .string ⟨#[]⟩, .int .i64 0, .slice none 0 0] 24)).cell? ⟨g, o + i * 4, none⟩ = _ := ((bel_one wr _).cell (p := ⟨g, o + i * 4, none⟩) hg).trans c0
              have q2 : (wr.alloc (.cells #[.int .u8 0, .string ⟨#[]⟩, .int .i64 0, .slice none 0 0] 24)).cell? ⟨g, o + i * 4 + 1, none⟩ = _ := ((bel_one wr _).cell (p := ⟨g, o + i * 4 + 1, none⟩) hg).trans c1
              have q3 : (wr.alloc (.cells #[.int .u8 0, .string ⟨#[]⟩, .int .i64 0, .slice none 0 0] 24)).cell? ⟨g, o + i * 4 + 2, none⟩ = _ := ((bel_one wr _).cell (p := ⟨g, o + i * 4 + 2, none⟩) hg).trans c2
              have q4 : (wr.alloc (.cells #[.int .u8 0, .string ⟨#[]⟩, .int .i64 0, .slice none 0 0] 24)).cell? ⟨g, o + i * 4 + 3, none⟩ = _ := ((bel_one wr _).cell (p := ⟨g, o + i * 4 + 3, none⟩) hg).trans c3
              have y0 : (wr.alloc (.cells #[.int .u8 0, .string ⟨#[]⟩, .int .i64 0, .slice none 0 0] 24)).cell? ⟨wr.heap.size, 0, none⟩ = some (.int .u8 0) := by simp [go_sem]
              have y1 : (wr.alloc (.cells #[.int .u8 0, .string ⟨#[]⟩, .int .i64 0, .slice none 0 0] 24)).cell? ⟨wr.heap.size, 1, none⟩ = some (.string ⟨#[]⟩) := by simp [go_sem]
              have y2 : (wr.alloc (.cells #[.int .u8 0, .string ⟨#[]⟩, .int .i64 0, .slice none 0 0] 24)).cell? ⟨wr.heap.size, 2, none⟩ = some (.int .i64 0) := by simp [go_sem]
              have y3 : (wr.alloc (.cells #[.int .u8 0, .string ⟨#[]⟩, .int .i64 0, .slice none 0 0] 24)).cell? ⟨wr.heap.size, 3, none⟩ = some (.slice none 0 0) := by simp [go_sem]
              have HY := hid (And.intro q0 (And.intro q1 (And.intro q2 (And.intro q3 (And.intro q4 (And.intro y0 (And.intro y1 (And.intro y2 y3))))))))
              clear q0 q1 q2 q3 q4 y0 y1 y2 y3
              go_wp2_with fail
              go_region_held3 (fun w' => w'.cell? ⟨w.heap.size, 3, none⟩ = some (.slice (some ⟨g, o, none⟩) p.ts.length pc) ∧ w'.cell? ⟨g, o + i * 4, none⟩ = some (.int .u8 r.k) ∧ w'.cell? ⟨g, o + i * 4 + 1, none⟩ = some (.string r.s) ∧ w'.cell? ⟨g, o + i * 4 + 2, none⟩ = some (.int .i64 r.n) ∧ w'.cell? ⟨g, o + i * 4 + 3, none⟩ = some (.slice ba r.ts.length be) ∧ w'.cell? ⟨wr.heap.size, 0, none⟩ = some (.int .u8 0) ∧ w'.cell? ⟨wr.heap.size, 1, none⟩ = some (.string ⟨#[]⟩) ∧ w'.cell? ⟨wr.heap.size, 2, none⟩ = some (.int .i64 0) ∧ w'.cell? ⟨wr.heap.size, 3, none⟩ = some (.slice none 0 0)) (first | go_keep | exact ⟨k3.got HY.out.1 ne0, k3.got HY.out.2.1 (HX _ hPg), k3.got HY.out.2.2.1 (HX _ hPg), k3.got HY.out.2.2.2.1 (HX _ hPg), k3.got HY.out.2.2.2.2.1 (HX _ hPg), k3.got HY.out.2.2.2.2.2.1 nb, k3.got HY.out.2.2.2.2.2.2.1 nb, k3.got HY.out.2.2.2.2.2.2.2.1 nb, k3.got HY.out.2.2.2.2.2.2.2.2 nb⟩) (first | (go_at_call 7; refine HCC.out.mono ?_; rintro e wa ⟨rfl, σ2, hv2, k1, k2, k3, k4⟩))
              have K1 := hid k1
              have K2 := hid k2
              have K3 := hid k3
              have K4 := hid k4
              clear k1 k2 k3 k4 HY HCC HC
              go_wp2
              go_round
              case rel =>
                refine ⟨i + 1, σ2, hv2, by go_num, by omega, K1.out, K2.out, HB.out.trans ((But.of_below ((bel_one wr _).trans (Below.refl _ _).drew)).trans K3.out), HLS.out.step HK.out hlt (fun h _ => (by cases h)) (by rw [HR.out]; exact K4.out)⟩
              case measure => simp [intOf]; omega
            · obtain ⟨rfl, hnq⟩ := hcase'
              have C := HC.out zT false (wr.alloc (.cells #[.int .u8 0, .string ⟨#[]⟩, .int .i64 0, .slice none 0 0] 24)) none 0 (bel_one _ _) (zRep _ _ _ _ _)
              unfold nodeV at C
              simp only [List.length_nil] at C
              have HCC := hid C
              clear C
              have nb : ¬ (wr.heap.size = S ∨ wr.heap.size = V) := by omega
              have q0 : (wr.alloc (.cells #[.int .u8 0, .string ⟨#[]⟩, .int .i64 0, .slice none 0 0] 24)).cell? ⟨w.heap.size, 3, none⟩ = _ := ((bel_one wr _).cell (p := ⟨w.heap.size, 3, none⟩) z0).trans b3
              have q1 : (wr.alloc (.cells #[.int .u8 0, .string ⟨#[]⟩, .int .i64 0, .slice none 0 0] 24)).cell? ⟨g, o + i * 4, none⟩ = _ := ((bel_one wr _).cell (p := ⟨g, o + i * 4, none⟩) hg).trans c0
              have q2 : (wr.alloc (.cells #[.int .u8 0, .string ⟨#[]⟩, .int .i64 0, .slice none 0 0] 24)).cell? ⟨g, o + i * 4 + 1, none⟩ = _ := ((bel_one wr _).cell (p := ⟨g, o + i * 4 + 1, none⟩) hg).trans c1
              have q3 : (wr.alloc (.cells #[.int .u8 0, .string ⟨#[]⟩, .int .i64 0, .slice none 0 0] 24)).cell? ⟨g, o + i * 4 + 2, none⟩ = _ := ((bel_one wr _).cell (p := ⟨g, o + i * 4 + 2, none⟩) hg).trans c2
              have q4 : (wr.alloc (.cells #[.int .u8 0, .string ⟨#[]⟩, .int .i64 0, .slice none 0 0] 24)).cell? ⟨g, o + i * 4 + 3, none⟩ = _ := ((bel_one wr _).cell (p := ⟨g, o + i * 4 + 3, none⟩) hg).trans c3
              have y0 : (wr.alloc (.cells #[.int .u8 0, .string ⟨#[]⟩, .int .i64 0, .slice none 0 0] 24)).cell? ⟨wr.heap.size, 0, none⟩ = some (.int .u8 0) := by simp [go_sem]
              have y1 : (wr.alloc (.cells #[.int .u8 0, .string ⟨#[]⟩, .int .i64 0, .slice none 0 0] 24)).cell? ⟨wr.heap.size, 1, none⟩ = some (.string ⟨#[]⟩) := by simp [go_sem]
              have y2 : (wr.alloc (.cells #[.int .u8 0, .string ⟨#[]⟩, .int .i64 0, .slice none 0 0] 24)).cell? ⟨wr.heap.size, 2, none⟩ = some (.int .i64 0) := by simp [go_sem]
              have y3 : (wr.alloc (.cells #[.int .u8 0, .string ⟨#[]⟩, .int .i64 0, .slice none 0 0] 24)).cell? ⟨wr.heap.size, 3, none⟩ = some (.slice none 0 0) := by simp [go_sem]
              have HY := hid (And.intro q0 (And.intro q1 (And.intro q2 (And.intro q3 (And.intro q4 (And.intro y0 (And.intro y1 (And.intro y2 y3))))))))
              clear q0 q1 q2 q3 q4 y0 y1 y2 y3
              go_wp2_with fail
              go_region_held3 (fun w' => w'.cell? ⟨w.heap.size, 3, none⟩ = some (.slice (some ⟨g, o, none⟩) p.ts.length pc) ∧ w'.cell? ⟨g, o + i * 4, none⟩ = some (.int .u8 r.k) ∧ w'.cell? ⟨g, o + i * 4 + 1, none⟩ = some (.string r.s) ∧ w'.cell? ⟨g, o + i * 4 + 2, none⟩ = some (.int .i64 r.n) ∧ w'.cell? ⟨g, o + i * 4 + 3, none⟩ = some (.slice ba r.ts.length be) ∧ w'.cell? ⟨wr.heap.size, 0, none⟩ = some (.int .u8 0) ∧ w'.cell? ⟨wr.heap.size, 1, none⟩ = some (.string ⟨#[]⟩) ∧ w'.cell? ⟨wr.heap.size, 2, none⟩ = some (.int .i64 0) ∧ w'.cell? ⟨wr.heap.size, 3, none⟩ = some (.slice none 0 0)) (first | go_keep | exact ⟨k3.got HY.out.1 ne0, k3.got HY.out.2.1 (HX _ hPg), k3.got HY.out.2.2.1 (HX _ hPg), k3.got HY.out.2.2.2.1 (HX _ hPg), k3.got HY.out.2.2.2.2.1 (HX _ hPg), k3.got HY.out.2.2.2.2.2.1 nb, k3.got HY.out.2.2.2.2.2.2.1 nb, k3.got HY.out.2.2.2.2.2.2.2.1 nb, k3.got HY.out.2.2.2.2.2.2.2.2 nb⟩) (first | (go_at_call 7; refine HCC.out.mono ?_; rintro e wa ⟨rfl, σ2, hv2, k1, k2, k3, k4⟩))
              have K1 := hid k1
              have K2 := hid k2
              have K3 := hid k3
              have K4 := hid k4
              clear k1 k2 k3 k4 HY HCC HC
              go_wp2
              go_round
              case rel =>
                refine ⟨i + 1, σ2, hv2, by go_num, by omega, K1.out, K2.out, HB.out.trans ((But.of_below ((bel_one wr _).trans (Below.refl _ _).drew)).trans K3.out), HLS.out.step HK.out hlt (fun _ h => absurd h hnq) (by rw [HR.out]; exact K4.out)⟩
              case measure => simp [intOf]; omega
        · have hin : i = p.ts.length := by omega
          subst hin
          go_wp2
          exact bodyPost_ret (v := .tuple #[]) (by simp [results, Try.results7, go_sem]) rfl ⟨rfl, σ', hv', HPT.out, HHV.out, HBW.out, HLS.out.done HK.out⟩

end Go.Proofs.Qxb6608511a
