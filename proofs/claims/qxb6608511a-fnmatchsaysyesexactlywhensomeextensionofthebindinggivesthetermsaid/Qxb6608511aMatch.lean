import Derived.Test.Qxb6608511aFree
/-
  match (15) and ZZBindingMatch (10).
-/
namespace Go.Proofs.Qxb6608511a
open Go.RowKit
set_option linter.unusedVariables false

/-- The world of a loop over the children. -/
structure MLoop (w W2 wc : World) (B T A n : Nat) (P : Nat → Prop) (D : Nat) (L' : Nat → Tm) (c' A' m0 : Nat) : Prop where
  mi : MIn wc B T A' n P D L' c'
  a : A' = A ∨ W2.heap.size ≤ A'
  but : But (fun g => g = B ∨ g = T ∨ g = A) W2 wc
  sm : c' + fr n L' ≤ m0

theorem WF.no3 {d : Nat} {t : Tm} (h : WF d 0 0 t) : t.k ≠ 3 := by
  cases d with
  | zero => exact h.elim
  | succ d =>
    rcases h with ⟨h, _⟩ | ⟨h, _⟩ | ⟨h, _⟩ | ⟨_, _, h, _⟩
    · omega
    · omega
    · omega
    · exact absurd rfl h
theorem WF.n0 {d : Nat} {mode nb : Int} {t : Tm} (h : WF d mode nb t) (hk : t.k = 2) : t.n = 0 := by
  cases d with
  | zero => exact h.elim
  | succ d =>
    rcases h with ⟨h, _⟩ | ⟨h, _⟩ | ⟨_, h, _⟩ | ⟨h, _⟩
    · omega
    · omega
    · exact h
    · omega
theorem WF.ts0 {d : Nat} {mode nb : Int} {t : Tm} (h : WF d mode nb t) (hk : t.k ≠ 2) : t.ts.length = 0 := by
  cases d with
  | zero => exact h.elim
  | succ d =>
    rcases h with ⟨_, _, h⟩ | ⟨_, _, h⟩ | ⟨h, _⟩ | ⟨_, h, _⟩
    · exact h
    · exact h
    · omega
    · exact h
theorem WF.kidE {mode nb : Int} {t : Tm} (h : ∃ k, WF k mode nb t) {i : Nat} (hi : i < t.ts.length) : ∃ k, WF k mode nb t.ts[i] := by
  obtain ⟨k, h⟩ := h
  cases k with
  | zero => exact h.elim
  | succ k => exact ⟨k, h.kid hi⟩

set_option maxHeartbeats 2000000 in
set_option maxRecDepth 100000 in
theorem match_any (D : Nat) (B T n : Nat) (P : Nat → Prop) : ∀ (d : Nat) (A : Nat) (L : Nat → Tm) (c : Nat) (p q : Tm) (vp vq : Value) (w : World), Rep w P d p vp → Rep w P (D + 1) q vq → WF d 2 n p → (∃ k, WF k 0 0 q) → MIn w B T A n P D L c →
    Calls Try.prog 15 #[.slice (some ⟨B, 0, none⟩) n n, vp, vq, .pointer (some ⟨T, 0, none⟩)] w (MatchPost w B T A n P d (D + 1) L c p q)
  | 0, _, _, _, _, _, _, _, _, h, _, _, _, _ => h.elim
  | d + 1, A, L, c, p, q, vp, vq, w, hp, hq, hwf, hwq, hin => by
    have IH : Hid (∀ (A : Nat) (L : Nat → Tm) (c : Nat) (p q : Tm) (vp vq : Value) (w : World), Rep w P d p vp → Rep w P (D + 1) q vq → WF d 2 n p → (∃ k, WF k 0 0 q) → MIn w B T A n P D L c →
      Calls Try.prog 15 #[.slice (some ⟨B, 0, none⟩) n n, vp, vq, .pointer (some ⟨T, 0, none⟩)] w (MatchPost w B T A n P d (D + 1) L c p q)) := match_any D B T n P d
    by_cases hk : p.k = 3
    · obtain ⟨v0, v1⟩ := hwf.vr hk
      obtain ⟨m, hm⟩ : ∃ m : Nat, p.n = m := ⟨p.n.toNat, by omega⟩
      by_cases hl : (L m).k = 3
      · obtain ⟨k, hwq⟩ := hwq
        exact match_free d D B T A n P L c p q vp vq w hp hq hwf hin hk m hm hl hwq.no3
      · exact match_bound d D B T A n P L c p q vp vq w hp hq hwf hin hk m hm hl
    obtain ⟨pa, pc, rfl, p1, p2, p3, p4, p5, p6, p7⟩ := hp.opn
    obtain ⟨ua, uc, rfl, t1, t2, t3, t4, t5, t6, t7⟩ := hq.opn
    have hk' : (p.k == 3) = false := by simp [hk]
    have HPR := hid hp
    have HQR := hid hq
    have HK := hid hk
    have HI := hid hin
    have HWF := hid hwf
    have HWQ := hid hwq
    unfold big at p2 t2
    by_cases hk2 : p.k = 2
    · have hk2' : (p.k == 2) = true := by simp [hk2]
      have HK2 := hid hk2
      clear hp hq hk hin hwf hwq hk2
      by_cases e0 : q.k = 2
      · have e0' : (q.k != 2) = false := by simp [e0]
        have E0 := hid e0
        clear e0
        by_cases e1 : q.s = p.s
        · have e1' : (q.s.toList == p.s.toList) = true := by simp [e1]
          have e1'' : q.s.toList = p.s.toList := by rw [e1]
          have E1 := hid e1
          clear e1
          by_cases e3 : q.ts.length = p.ts.length
          · have e3' : (((q.ts.length : Nat) : Int) != ((p.ts.length : Nat) : Int)) = false := by simp [e3]
            have E3 := hid e3
            clear e3
            unfold nodeV
            go_enter Try.func15, Try.ntmps15
            go_wp2
            go_loopw [65] (fun v65 wc => ∃ (i : Nat) (L' : Nat → Tm) (c' A' : Nat), v65 = .int .i64 i ∧ i ≤ p.ts.length ∧ MLoop w ((w.alloc (.cells #[.int .u8 p.k, .string p.s, .int .i64 p.n, .slice pa p.ts.length pc] 32)).alloc (.cells #[.int .u8 q.k, .string q.s, .int .i64 q.n, .slice ua q.ts.length uc] 32)) wc B T A n P D L' c' A' (c + fr n L) ∧ MTs d L p q L' i (c' = c)) (fun v65 _ => p.ts.length - (intOf v65).toNat)
            case atStart => exact ⟨0, L, c, A, rfl, Nat.zero_le _, ⟨HI.out.below (bel_two _ _ _), .inl rfl, But.refl _ _, Nat.le_refl _⟩, MTs.zero rfl⟩
            case round =>
              obtain ⟨i, L', c', A', rfl, hi, hml, hms⟩ := hrel
              have HML := hid hml
              have HMS := hid hms
              have hbut := hml.but
              have hsz := hbut.size
              simp at hsz
              obtain ⟨lT, lA⟩ := HI.out.tr.lt
              have lB := HI.out.ltB
              have hA' : A' = A ∨ w.heap.size + 2 ≤ A' := by
                rcases hml.a with h | h
                · exact .inl h
                · simp at h; exact .inr h
              have b3 := hbut.cell (p := ⟨w.heap.size, 3, none⟩) (by simp; omega) (by simp; omega)
              have d3 := hbut.cell (p := ⟨w.heap.size + 1, 3, none⟩) (by simp) (by simp; omega)
              simp [go_sem] at b3 d3
              have HX : ∀ g, P g → ¬ (g = B ∨ g = T ∨ g = A) := fun g hg e => by
                rcases e with e | e | e
                · exact HI.out.nB (e ▸ hg)
                · exact HI.out.nT (e ▸ hg)
                · exact HI.out.nA (e ▸ hg)
              have HBW : Hid (But (fun g => g = B ∨ g = T ∨ g = A) w wr) := (But.of_below (bel_two w _ _)).trans hbut
              have z0 : w.heap.size < wr.heap.size := by omega
              have z1 : w.heap.size + 1 < wr.heap.size := by omega
              have HA := hid hA'
              clear hml hms hbut hA'
              by_cases hlt : i < p.ts.length
              · have hlq : i < q.ts.length := by have := E3.out; omega
                obtain ⟨r, g, o, ba, be, hbq, hbp, hPg, hg, c0, c1, c2, c3, hkid⟩ := (HPR.out.but HBW.out HX).kidV (i := i) hlt
                subst hbp
                obtain ⟨u, g', o', qa, qe, huq, hup, hPg', hg', d0, d1, d2, d4, hkid'⟩ := (HQR.out.but HBW.out HX).kidV (i := i) hlq
                subst hup
                have HR := hid hbq
                have HU := hid huq
                have HKD := hid hkid
                have HUD := hid (show Rep wr P (D + 1) u (nodeV u qa qe) from hkid'.up)
                have HC := hid (fun (w' : World) (hw : Below wr.heap.size wr w') => IH.out A' L' c' r u (nodeV r ba be) (nodeV u qa qe) w'.drew (HKD.out.below hw).drew (HUD.out.below hw).drew (by rw [← hbq]; exact HWF.out.kid hlt) (by rw [← huq]; exact WF.kidE HWQ.out hlq) (HML.out.mi.below (hw.trans (Below.refl _ _).drew)))
                obtain ⟨lT', lA'⟩ := HML.out.mi.tr.lt
                have ne1 : ¬ (w.heap.size + 1 = B ∨ w.heap.size + 1 = T ∨ w.heap.size + 1 = A') := by have := HA.out; omega
                have nb : ¬ (wr.heap.size = B ∨ wr.heap.size = T ∨ wr.heap.size = A') := by omega
                have neg : ¬ (g' = B ∨ g' = T ∨ g' = A') := fun e => by
                  rcases e with e | e | e
                  · exact HML.out.mi.nB (e ▸ hPg')
                  · exact HML.out.mi.nT (e ▸ hPg')
                  · exact HML.out.mi.nA (e ▸ hPg')
                clear hbq huq hkid hkid' IH
                unfold nodeV at HC
                have HCC := hid (HC.out (wr.alloc (.cells #[.int .u8 r.k, .string r.s, .int .i64 r.n, .slice ba r.ts.length be] 32)) (bel_one _ _))
                have q0 : (wr.alloc (.cells #[.int .u8 r.k, .string r.s, .int .i64 r.n, .slice ba r.ts.length be] 32)).cell? ⟨w.heap.size + 1, 3, none⟩ = _ := ((bel_one wr _).cell (p := ⟨w.heap.size + 1, 3, none⟩) z1).trans d3
                have q1 : (wr.alloc (.cells #[.int .u8 r.k, .string r.s, .int .i64 r.n, .slice ba r.ts.length be] 32)).cell? ⟨g', o' + i * 4, none⟩ = _ := ((bel_one wr _).cell (p := ⟨g', o' + i * 4, none⟩) hg').trans d0
                have q2 : (wr.alloc (.cells #[.int .u8 r.k, .string r.s, .int .i64 r.n, .slice ba r.ts.length be] 32)).cell? ⟨g', o' + i * 4 + 1, none⟩ = _ := ((bel_one wr _).cell (p := ⟨g', o' + i * 4 + 1, none⟩) hg').trans d1
                have q3 : (wr.alloc (.cells #[.int .u8 r.k, .string r.s, .int .i64 r.n, .slice ba r.ts.length be] 32)).cell? ⟨g', o' + i * 4 + 2, none⟩ = _ := ((bel_one wr _).cell (p := ⟨g', o' + i * 4 + 2, none⟩) hg').trans d2
                have q4 : (wr.alloc (.cells #[.int .u8 r.k, .string r.s, .int .i64 r.n, .slice ba r.ts.length be] 32)).cell? ⟨g', o' + i * 4 + 3, none⟩ = _ := ((bel_one wr _).cell (p := ⟨g', o' + i * 4 + 3, none⟩) hg').trans d4
                have y0 : (wr.alloc (.cells #[.int .u8 r.k, .string r.s, .int .i64 r.n, .slice ba r.ts.length be] 32)).cell? ⟨wr.heap.size, 0, none⟩ = some (.int .u8 r.k) := by simp [go_sem]
                have y1 : (wr.alloc (.cells #[.int .u8 r.k, .string r.s, .int .i64 r.n, .slice ba r.ts.length be] 32)).cell? ⟨wr.heap.size, 1, none⟩ = some (.string r.s) := by simp [go_sem]
                have y2 : (wr.alloc (.cells #[.int .u8 r.k, .string r.s, .int .i64 r.n, .slice ba r.ts.length be] 32)).cell? ⟨wr.heap.size, 2, none⟩ = some (.int .i64 r.n) := by simp [go_sem]
                have y3 : (wr.alloc (.cells #[.int .u8 r.k, .string r.s, .int .i64 r.n, .slice ba r.ts.length be] 32)).cell? ⟨wr.heap.size, 3, none⟩ = some (.slice ba r.ts.length be) := by simp [go_sem]
                have HY := hid (And.intro q0 (And.intro q1 (And.intro q2 (And.intro q3 (And.intro q4 (And.intro y0 (And.intro y1 (And.intro y2 y3))))))))
                clear q0 q1 q2 q3 q4 y0 y1 y2 y3
                go_wp2_with fail
                go_region_held3 (fun w' => w'.cell? ⟨w.heap.size + 1, 3, none⟩ = some (.slice (some ⟨g', o', none⟩) q.ts.length uc) ∧ w'.cell? ⟨g', o' + i * 4, none⟩ = some (.int .u8 u.k) ∧ w'.cell? ⟨g', o' + i * 4 + 1, none⟩ = some (.string u.s) ∧ w'.cell? ⟨g', o' + i * 4 + 2, none⟩ = some (.int .i64 u.n) ∧ w'.cell? ⟨g', o' + i * 4 + 3, none⟩ = some (.slice qa u.ts.length qe) ∧ w'.cell? ⟨wr.heap.size, 0, none⟩ = some (.int .u8 r.k) ∧ w'.cell? ⟨wr.heap.size, 1, none⟩ = some (.string r.s) ∧ w'.cell? ⟨wr.heap.size, 2, none⟩ = some (.int .i64 r.n) ∧ w'.cell? ⟨wr.heap.size, 3, none⟩ = some (.slice ba r.ts.length be)) (first | go_keep | exact ⟨k4.got HY.out.1 ne1, k4.got HY.out.2.1 neg, k4.got HY.out.2.2.1 neg, k4.got HY.out.2.2.2.1 neg, k4.got HY.out.2.2.2.2.1 neg, k4.got HY.out.2.2.2.2.2.1 nb, k4.got HY.out.2.2.2.2.2.2.1 nb, k4.got HY.out.2.2.2.2.2.2.2.1 nb, k4.got HY.out.2.2.2.2.2.2.2.2 nb⟩) (first | (go_at_call 15; refine HCC.out.mono ?_; rintro e wa ⟨yy, L2, c2, A2, rfl, k1, k2, k3, k4, k5, k6⟩))
                have K1 := hid k1
                have K2 := hid k2
                have K3 := hid k3
                have K4 := hid k4
                have K5 := hid k5
                have K6 := hid k6
                clear k1 k2 k3 k4 k5 k6 HY HCC HC
                have hA2 : A2 = A ∨ w.heap.size + 2 ≤ A2 := by
                  rcases K3.out with h | h
                  · rw [h]; exact HA.out
                  · refine .inr (Nat.le_trans ?_ h)
                    show _ ≤ (wr.alloc _).heap.size
                    simp; omega
                have hbut2 := HML.out.but.trans2 ((But.of_below ((bel_one wr (.cells #[.int .u8 r.k, .string r.s, .int .i64 r.n, .slice ba r.ts.length be] 32)).trans (Below.refl _ _).drew)).trans K4.out) (fun g hg e => by
                  simp at hg
                  rcases e with e | e | e
                  · exact .inl e
                  · exact .inr (.inl e)
                  · rcases HA.out with h | h
                    · exact .inr (.inr (e.trans h))
                    · omega)
                have hnA2 : ¬ P A2 := fun h => by
                  rcases hA2 with e | e
                  · exact HI.out.nA (e ▸ h)
                  · have := HI.out.ltP _ h; omega
                have hbA2 : B ≠ A2 := fun e => by
                  rcases hA2 with h | h
                  · exact HI.out.ba (e.trans h)
                  · omega
                have htA2 : T ≠ A2 := fun e => by
                  rcases hA2 with h | h
                  · exact HI.out.ta (e.trans h)
                  · omega
                have hsm : c2 + fr n L2 ≤ c + fr n L := Nat.le_trans K5.out HML.out.sm
                have HM2 : Hid (MLoop w ((w.alloc (.cells #[.int .u8 p.k, .string p.s, .int .i64 p.n, .slice (some ⟨g, o, none⟩) p.ts.length pc] 32)).alloc (.cells #[.int .u8 q.k, .string q.s, .int .i64 q.n, .slice (some ⟨g', o', none⟩) q.ts.length uc] 32)) wa B T A n P D L2 c2 A2 (c + fr n L)) := ⟨⟨K1.out, K2.out, Nat.lt_of_lt_of_le (by simp; omega) hbut2.size, fun g hg => Nat.lt_of_lt_of_le (HI.out.ltP g hg) (Nat.le_trans (bel_two w _ _).size hbut2.size), HI.out.nB, HI.out.nT, hnA2, HI.out.bt, hbA2, htA2, Nat.le_trans hsm HI.out.small, HI.out.n4⟩, by simpa using hA2, hbut2, hsm⟩
                clear hA2 hnA2 hbA2 htA2
                have HB2 := hid hbut2
                clear hbut2
                cases yy with
                | true =>
                  go_wp2
                  go_round
                  case rel => exact ⟨i + 1, L2, c2, A2, by go_num, by omega, HM2.out, HMS.out.step (s' := c2 = c') HK.out hlt hlq (by rw [HR.out, HU.out]; exact K6.out) (fun h1 h2 => Eq.trans h2 h1)⟩
                  case measure => simp [intOf]; omega
                | false =>
                  go_wp2
                  go_ret
                  refine ⟨false, L2, c2, A2, rfl, HM2.out.mi.row, HM2.out.mi.tr, ?_, (But.of_below (bel_two w _ _)).trans HM2.out.but, HM2.out.sm, HMS.out.halts (s' := c2 = c') HK.out hlt hlq (by rw [HR.out, HU.out]; exact K6.out) (fun h1 h2 => Eq.trans h2 h1)⟩
                  rcases HM2.out.a with h | h
                  · exact .inl h
                  · simp at h; exact .inr (by omega)
              · have hin : i = p.ts.length := by omega
                subst hin
                go_wp2
                go_ret
                have hb2 := HBW.out
                refine ⟨true, L', c', A', rfl, HML.out.mi.row, HML.out.mi.tr, ?_, HBW.out, HML.out.sm, HMS.out.done HK.out (by rw [E0.out, HK2.out]) E1.out (by obtain ⟨k, h⟩ := HWQ.out; rw [h.n0 E0.out, HWF.out.n0 HK2.out]) E3.out⟩
                rcases HA.out with h | h
                · exact .inl h
                · exact .inr (by omega)
          · have e3' : (((q.ts.length : Nat) : Int) != ((p.ts.length : Nat) : Int)) = true := by simp; omega
            have HE := hid e3
            clear e3
            unfold nodeV
            go_enter Try.func15, Try.ntmps15
            go_wp2
            go_ret
            exact ⟨false, L, c, A, rfl, (HI.out.below (bel_two w _ _)).row, (HI.out.below (bel_two w _ _)).tr, .inl rfl, But.of_below (bel_two w _ _), Nat.le_refl _, MT.other HK2.out (fun h => HE.out h.2.2) rfl⟩
        · have e1' : (q.s.toList == p.s.toList) = false := by
            rw [ByteArray.toList_eq, ByteArray.toList_eq]
            simp only [beq_eq_false_iff_ne, ne_eq]
            exact fun h => e1 (Go.WideShapes.bytes_inj h)
          have HE := hid e1
          clear e1
          unfold nodeV
          go_enter Try.func15, Try.ntmps15
          go_wp2
          go_ret
          exact ⟨false, L, c, A, rfl, (HI.out.below (bel_two w _ _)).row, (HI.out.below (bel_two w _ _)).tr, .inl rfl, But.of_below (bel_two w _ _), Nat.le_refl _, MT.other HK2.out (fun h => HE.out h.2.1) rfl⟩
      · have e0' : (q.k != 2) = true := by simp [e0]
        have HE := hid e0
        clear e0
        unfold nodeV
        go_enter Try.func15, Try.ntmps15
        go_wp2
        go_ret
        exact ⟨false, L, c, A, rfl, (HI.out.below (bel_two w _ _)).row, (HI.out.below (bel_two w _ _)).tr, .inl rfl, But.of_below (bel_two w _ _), Nat.le_refl _, MT.other HK2.out (fun h => HE.out h.1) rfl⟩
    · have hk2' : (p.k == 2) = false := by simp [hk2]
      have HC := hid (fun w' (hw : Below w.heap.size w w') => equal_any (d + 1 + (D + 1)) p q _ _ w' P P ((hp.below hw).le (by omega)) ((hq.below hw).le (by omega)))
      have HK2 := hid hk2
      clear hp hq hk hin hwf hwq hk2
      unfold nodeV at HC
      unfold nodeV
      go_enter Try.func15, Try.ntmps15
      go_wp2_with fail
      refine (HC.out _ (bel_two w _ _)).mono ?_
      rintro e wa ⟨rfl, hwa⟩
      have HW := hid hwa
      clear hwa HC
      go_wp2
      go_ret
      have hb := (bel_two w _ _).trans (HW.out.mono (bel_two w _ _).size)
      have hi2 := HI.out.below hb
      exact ⟨_, L, c, A, rfl, hi2.row, hi2.tr, .inl rfl, But.of_below hb, Nat.le_refl _, MT.leaf HK.out (HWF.out.ts0 HK2.out) (HPR.out.le (by omega)).fit rfl⟩

set_option maxHeartbeats 1000000 in
set_option maxRecDepth 100000 in
theorem zz_any (D : Nat) (B T n : Nat) (P : Nat → Prop) (d : Nat) (A : Nat) (L : Nat → Tm) (c : Nat) (p q : Tm) (pa : Option Addr) (pc : Nat) (ua : Option Addr) (uc : Nat) (w : World) (hp : Rep w P d p (nodeV p pa pc)) (hq : Rep w P (D + 1) q (nodeV q ua uc)) (hwf : WF d 2 n p) (hwq : ∃ k, WF k 0 0 q) (hin : MIn w B T A n P D L c) :
    Calls Try.prog 10 #[.slice (some ⟨B, 0, none⟩) n n, nodeV p pa pc, nodeV q ua uc, .pointer (some ⟨T, 0, none⟩)] w (MatchPost w B T A n P d (D + 1) L c p q) := by
  have HC := hid (fun w' (hw : Below w.heap.size w w') => match_any D B T n P d A L c p q _ _ w' (hp.below hw) (hq.below hw) hwf hwq (hin.below hw))
  clear hp hq hwf hwq hin
  unfold nodeV at HC
  unfold nodeV
  go_enter Try.func10, Try.ntmps10
  go_wp2_with fail
  refine (HC.out _ (bel_two w _ _)).mono ?_
  rintro e wa ⟨yy, L2, c2, A2, rfl, k1, k2, k3, k4, k5, k6⟩
  have K1 := hid k1
  have K2 := hid k2
  have K3 := hid k3
  have K4 := hid k4
  have K5 := hid k5
  have K6 := hid k6
  clear k1 k2 k3 k4 k5 k6 HC
  go_wp2
  go_ret
  refine ⟨yy, L2, c2, A2, rfl, K1.out, K2.out, ?_, (But.of_below (bel_two w _ _)).trans K4.out, K5.out, K6.out⟩
  rcases K3.out with h | h
  · exact .inl h
  · simp at h; exact .inr (by omega)

end Go.Proofs.Qxb6608511a
