import Derived.Test.Qxb6608511aSize
import Derived.Test.Qxb6608511aWf
import Derived.Test.Qxb6608511aTerms
/-
  matchFits (4): what its yes says.
-/
namespace Go.Proofs.Qxb6608511a
open Go.RowKit
set_option linter.unusedVariables false

/-- Every term of a list is well formed. -/
def WFs (d : Nat) (L : List Tm) (i : Nat) : Prop := ∀ j (h : j < L.length), j < i → WF d 1 0 L[j]

set_option maxHeartbeats 4000000 in
set_option maxRecDepth 100000 in
theorem fits_any (d : Nat) (L : List Tm) (a : Option Addr) (c : Nat) (p t : Tm) (vp vt : Value) (w : World) (P : Nat → Prop) (HL : Rep w P (d + 1 + 1) (rowT L) (nodeV (rowT L) a c)) (hp : Rep w P (d + 1) p vp) (ht : Rep w P (d + 1) t vt)
    (tb tof : Nat) (ta : Option Addr) (lt ct : Nat) (hq : w.cell? ⟨tb, tof, none⟩ = some (.slice ta lt ct)) (hn : L.length ≤ 4096) (hl : lt ≤ 4096) :
    Calls Try.prog 4 #[.slice a L.length c, vp, vt, .pointer (some ⟨tb, tof, none⟩)] w (Yes w (WFs (d + 1) L L.length ∧ WF (d + 1) 2 L.length p ∧ WF (d + 1) 0 0 t)) := by
  obtain ⟨pa, pc, rfl, p1, p2, p3, p4, p5, p6, p7⟩ := hp.opn
  obtain ⟨ua, uc, rfl, t1, t2, t3, t4, t5, t6, t7⟩ := ht.opn
  have htb := cell_lt hq
  have HPR := hid hp
  have HTR := hid ht
  have HLR := hid HL
  clear hp ht HL
  unfold big at p2 t2
  unfold nodeV
  go_enter Try.func4, Try.ntmps4
  go_wp2
  go_loopw [9, 10] (fun v9 v10 wc => ∃ (r : Int) (i : Nat), v9 = .int .i64 r ∧ v10 = .int .i64 i ∧ i ≤ L.length ∧ Below (w.heap.size + 2) ((w.alloc (.cells #[.int .u8 p.k, .string p.s, .int .i64 p.n, .slice pa p.ts.length pc] 24)).alloc (.cells #[.int .u8 t.k, .string t.s, .int .i64 t.n, .slice ua t.ts.length uc] 24)) wc) (fun _ v10 _ => L.length - (intOf v10).toNat)
  case atStart => exact ⟨_, 0, rfl, rfl, Nat.zero_le _, Below.refl _ _⟩
  case round =>
    obtain ⟨r, i, rfl, rfl, hi, hbel⟩ := hrel
    have HB := hid hbel
    by_cases hlt : i < L.length
    · by_cases hr : 0 ≤ r
      · obtain ⟨q, g, o, b, e, hq', hp', _, hg, c0, c1, c2, c3, hkid⟩ := (HLR.out.afterG (bel_two w _ _) hbel (by omega)).kidV (i := i) hlt
        subst hp'
        have C := hid (size_any _ q _ wr P r hkid)
        clear hkid hbel hq'
        go_wp2_with fail
        refine C.out.mono ?_
        rintro e wa ⟨⟨r', rfl⟩, hwa⟩
        have HW := hid hwa
        clear hwa C
        go_wp2
        go_round
        case rel => exact ⟨r', i + 1, rfl, by go_num, by omega, bel_roundG HB.out (by simp) HW.out⟩
        case measure => simp [intOf]; omega
      · clear hbel
        go_wp2
        go_ret
        exact ⟨false, rfl, fun h => (by cases h), bel_startG (bel_two w _ _) HB.out (by omega) (Below.refl _ _)⟩
    · by_cases hr : 0 ≤ r
      · have g0 := hbel.cell (p := ⟨w.heap.size, 0, none⟩) (by simp)
        have g1 := hbel.cell (p := ⟨w.heap.size, 1, none⟩) (by simp)
        have g2 := hbel.cell (p := ⟨w.heap.size, 2, none⟩) (by simp)
        have g3 := hbel.cell (p := ⟨w.heap.size, 3, none⟩) (by simp)
        have r0 := hbel.cell (p := ⟨w.heap.size + 1, 0, none⟩) (by simp)
        have r1 := hbel.cell (p := ⟨w.heap.size + 1, 1, none⟩) (by simp)
        have r2 := hbel.cell (p := ⟨w.heap.size + 1, 2, none⟩) (by simp)
        have r3 := hbel.cell (p := ⟨w.heap.size + 1, 3, none⟩) (by simp)
        simp [go_sem] at g0 g1 g2 g3 r0 r1 r2 r3
        have hs := hbel.size
        simp at hs
        have C := hid (size_any _ p _ wr P r (HPR.out.afterG (bel_two w _ _) hbel (by omega)))
        clear hbel
        go_wp2_with fail
        refine C.out.mono ?_
        rintro e wa ⟨⟨r', rfl⟩, hwa⟩
        have hb2 := bel_roundG HB.out (by simp) hwa
        have HB2 := hid hb2
        have C2 := hid (size_any _ t _ wa P r' (HTR.out.afterG (bel_two w _ _) hb2 (by omega)))
        replace r0 := (hwa.cell (p := ⟨w.heap.size + 1, 0, none⟩) (by show w.heap.size + 1 < _; omega)).trans r0
        replace r1 := (hwa.cell (p := ⟨w.heap.size + 1, 1, none⟩) (by show w.heap.size + 1 < _; omega)).trans r1
        replace r2 := (hwa.cell (p := ⟨w.heap.size + 1, 2, none⟩) (by show w.heap.size + 1 < _; omega)).trans r2
        replace r3 := (hwa.cell (p := ⟨w.heap.size + 1, 3, none⟩) (by show w.heap.size + 1 < _; omega)).trans r3
        clear hwa C g0 g1 g2 g3 hb2
        by_cases hr' : 0 ≤ r'
        · go_wp2_with fail
          refine C2.out.mono ?_
          rintro e wz ⟨⟨r'', rfl⟩, hwz⟩
          have hb3 := bel_roundG HB2.out (by simp) hwz
          have HB3 := hid hb3
          clear hwz C2 r0 r1 r2 r3 hb3
          by_cases hr'' : 0 ≤ r''
          · go_wp2
            go_loopw [11] (fun v11 wc => ∃ (i : Nat), v11 = .int .i64 i ∧ i ≤ L.length ∧ WFs (d + 1) L i ∧ Below (w.heap.size + 2) ((w.alloc (.cells #[.int .u8 p.k, .string p.s, .int .i64 p.n, .slice pa p.ts.length pc] 24)).alloc (.cells #[.int .u8 t.k, .string t.s, .int .i64 t.n, .slice ua t.ts.length uc] 24)) wc) (fun v11 _ => L.length - (intOf v11).toNat)
            case atStart => exact ⟨0, rfl, Nat.zero_le _, fun j h1 h2 => absurd h2 (Nat.not_lt_zero _), HB3.out⟩
            case round =>
              obtain ⟨i, rfl, hi, hwf, hbel⟩ := hrel
              have HB := hid hbel
              have HF := hid hwf
              clear hwf
              by_cases hlt : i < L.length
              · obtain ⟨q, g, o, b, e, hq', hp', _, hg, c0, c1, c2, c3, hkid⟩ := (HLR.out.afterG (bel_two w _ _) hbel (by omega)).kidV (i := i) hlt
                subst hp'
                have C := hid (wf_any _ q _ wr P 1 0 hkid)
                have HQ := hid hq'
                clear hkid hbel hq'
                go_wp2_with fail
                refine C.out.mono ?_
                rintro e wa ⟨b, rfl, hyes, hwa⟩
                have HW := hid hwa
                have HY := hid hyes
                clear hwa hyes C
                cases b with
                | true =>
                  go_wp2
                  go_round
                  case rel =>
                    refine ⟨i + 1, by go_num, by omega, fun j h1 h2 => ?_, bel_roundG HB.out (by simp) HW.out⟩
                    by_cases e : j = i
                    · subst e
                      have e2 : L[j] = q := HQ.out
                      rw [e2]
                      exact HY.out (by first | rfl | trivial)
                    · exact HF.out j h1 (by omega)
                  case measure => simp [intOf]; omega
                | false =>
                  go_wp2
                  go_ret
                  exact ⟨false, rfl, fun h => (by cases h), bel_startG (bel_two w _ _) (bel_roundG HB.out (by simp) HW.out) (by omega) (Below.refl _ _)⟩
              · have hin : i = L.length := by omega
                subst hin
                have g0 := hbel.cell (p := ⟨w.heap.size, 0, none⟩) (by simp)
                have g1 := hbel.cell (p := ⟨w.heap.size, 1, none⟩) (by simp)
                have g2 := hbel.cell (p := ⟨w.heap.size, 2, none⟩) (by simp)
                have g3 := hbel.cell (p := ⟨w.heap.size, 3, none⟩) (by simp)
                have r0 := hbel.cell (p := ⟨w.heap.size + 1, 0, none⟩) (by simp)
                have r1 := hbel.cell (p := ⟨w.heap.size + 1, 1, none⟩) (by simp)
                have r2 := hbel.cell (p := ⟨w.heap.size + 1, 2, none⟩) (by simp)
                have r3 := hbel.cell (p := ⟨w.heap.size + 1, 3, none⟩) (by simp)
                simp [go_sem] at g0 g1 g2 g3 r0 r1 r2 r3
                have hs := hbel.size
                simp at hs
                have C := hid (wf_any _ p _ wr P 2 L.length (HPR.out.afterG (bel_two w _ _) hbel (by omega)))
                clear hbel
                go_wp2_with fail
                refine C.out.mono ?_
                rintro e wa ⟨b, rfl, hyes, hwa⟩
                have hb2 := bel_roundG HB.out (by simp) hwa
                have HB2 := hid hb2
                have HY := hid hyes
                have C2 := hid (wf_any _ t _ wa P 0 0 (HTR.out.afterG (bel_two w _ _) hb2 (by omega)))
                replace r0 := (hwa.cell (p := ⟨w.heap.size + 1, 0, none⟩) (by show w.heap.size + 1 < _; omega)).trans r0
                replace r1 := (hwa.cell (p := ⟨w.heap.size + 1, 1, none⟩) (by show w.heap.size + 1 < _; omega)).trans r1
                replace r2 := (hwa.cell (p := ⟨w.heap.size + 1, 2, none⟩) (by show w.heap.size + 1 < _; omega)).trans r2
                replace r3 := (hwa.cell (p := ⟨w.heap.size + 1, 3, none⟩) (by show w.heap.size + 1 < _; omega)).trans r3
                clear hwa hyes C g0 g1 g2 g3 hb2
                cases b with
                | true =>
                  go_wp2_with fail
                  refine C2.out.mono ?_
                  rintro e wz ⟨b, rfl, hyes, hwz⟩
                  have HZ := hid hwz
                  have HY2 := hid hyes
                  clear hwz hyes
                  go_wp2
                  go_ret
                  exact ⟨b, rfl, fun h => ⟨HF.out, HY.out (by first | rfl | trivial), HY2.out h⟩, bel_startG (bel_two w _ _) (bel_roundG HB2.out (by simp) HZ.out) (by omega) (Below.refl _ _)⟩
                | false =>
                  go_wp2
                  go_ret
                  exact ⟨false, rfl, fun h => (by cases h), bel_startG (bel_two w _ _) HB2.out (by omega) (Below.refl _ _)⟩
          · go_wp2
            go_ret
            exact ⟨false, rfl, fun h => (by cases h), bel_startG (bel_two w _ _) HB3.out (by omega) (Below.refl _ _)⟩
        · clear C2
          go_wp2
          go_ret
          exact ⟨false, rfl, fun h => (by cases h), bel_startG (bel_two w _ _) HB2.out (by omega) (Below.refl _ _)⟩
      · clear hbel
        go_wp2
        go_ret
        exact ⟨false, rfl, fun h => (by cases h), bel_startG (bel_two w _ _) HB.out (by omega) (Below.refl _ _)⟩

end Go.Proofs.Qxb6608511a
