import Derived.Test.Qxb6605944aTopA
namespace Go.Proofs.Qxb6605944a
open Go.RowKit
set_option linter.unusedVariables false

theorem law2 (ps : List (Nat × Nat)) (first : Int) (st : Nat) (n : Int) (h : 1 ≤ n) :
    (first + (up ps st (n + 1 - 1).toNat : Nat)) - (first + (up ps st (n - 1).toNat : Nat)) = (stepAt ps st n.toNat : Nat) := by
  obtain ⟨k, hk⟩ : ∃ k : Nat, n = (k : Int) + 1 := ⟨(n - 1).toNat, by omega⟩
  subst hk
  have e1 : ((k : Int) + 1 + 1 - 1).toNat = k + 1 := by omega
  have e2 : ((k : Int) + 1 - 1).toNat = k := by omega
  have e3 : ((k : Int) + 1).toNat = k + 1 := by omega
  rw [e1, e2, e3, up_succ]
  omega
theorem law2_one (ps : List (Nat × Nat)) (first : Int) (st : Nat) (n : Int) (h : n = 1) : first + (up ps st (n - 1).toNat : Nat) = first := by
  subst h
  have e : ((1 : Int) - 1).toNat = 0 := rfl
  rw [e, up_zero]; omega

set_option maxHeartbeats 2000000 in
set_option maxRecDepth 100000 in
theorem top4_low (records first last step count n : Int) (a : Option Addr) (len cap : Nat) (l : List UInt8) (w : World) (hl : l.length = len) (hn : len ≤ 65536) (hby : Bytes w a l) (hnil : a = none → len = 0 ∧ cap = 0) (hr : records < 1) :
    Calls Try.prog 4 #[.int .i64 records, .int .i64 first, .int .i64 last, .slice a len cap, .int .i64 step, .int .i64 count, .int .i64 n] w fun e w' => e = .returned (.bool true) ∧ Below w.heap.size w w' := by
  have C8 := hid (clone_any a len cap l w hl hn hby hnil)
  have h20 : len ≤ 1048576 := by omega
  have C5 := hid (bytes12 records first last step count n a len cap w h20)
  clear hby hnil hl
  by_cases hn1 : n < 1
  all_goals
    have hout : n < 1 ∨ records < n := by omega
    have HO := hid hout
    clear hout
    go_enter Try.func4, Try.ntmps4
    go_wp2_with fail
    refine C5.out.mono ?_
    rintro e wa ⟨rfl, hwa⟩
    rw [hwa]; clear hwa wa
    go_wp2_with fail
    refine C8.out.mono ?_
    rintro e w1 ⟨sl, rfl, hru, hb⟩
    have HB := hid hb
    have HR := hid hru
    clear hb hru
    go_wp2_with fail
    refine (new_any _ _ _ _ _ _ l w1 w1 HR.out).mono ?_
    rintro e w2 ⟨b, rfl, hi, hb2⟩
    have HI := hid hi
    have HB2 := hid hb2
    clear hi hb2
    go_wp2_with fail
    refine (line_none _ _ _ _ _ _ w2 HO.out HI.out).mono ?_
    rintro e w3 ⟨rfl, hw3⟩
    rw [hw3]; clear hw3 w3
    go_wp2
    go_ret
    exact ⟨rfl, HB.out.trans (HB2.out.mono HB.out.size)⟩

set_option maxHeartbeats 2000000 in
set_option maxRecDepth 100000 in
theorem top4_high (records first last step count n : Int) (a : Option Addr) (len cap : Nat) (l : List UInt8) (w : World) (hl : l.length = len) (hn : len ≤ 65536) (hby : Bytes w a l) (hnil : a = none → len = 0 ∧ cap = 0) (hr : 1 ≤ records) (hr2 : records ≤ 9223372036854775807) :
    Calls Try.prog 4 #[.int .i64 records, .int .i64 first, .int .i64 last, .slice a len cap, .int .i64 step, .int .i64 count, .int .i64 n] w fun e w' => e = .returned (.bool true) ∧ Below w.heap.size w w' := by
  have C6 := hid (dec_any a len cap l w hl hn hby)
  have h20 : len ≤ 1048576 := by omega
  have C5 := hid (bytes12 records first last step count n a len cap w h20)
  have HBY := hid hby
  have HN := hid hnil
  have HL := hid hl
  clear hby hnil hl
  go_enter Try.func4, Try.ntmps4
  go_wp2_with fail
  refine C5.out.mono ?_
  rintro e wa ⟨rfl, hwa⟩
  rw [hwa]; clear hwa wa
  go_wp2_with fail
  refine C6.out.mono ?_
  rintro e w1 (⟨rfl, hb⟩ | ⟨ps, v1, v2, rfl, hen, hsm, hv, hb⟩)
  · have HB := hid hb
    clear hb
    go_wp2
    go_ret
    exact ⟨rfl, HB.out⟩
  · have HB := hid hb
    have HV := hid hv
    have HE := hid hen
    have hlps : ps.length ≤ 65536 := by have := Enc.length _ _ _ hen; have := HL.out; omega
    clear hb hv hen
    go_wp2_with fail
    refine (premise_any _ _ _ _ _ _ _ ps w1 hr hr2 hsm hlps HV.out).mono ?_
    rintro e w2 ⟨b, rfl, hp, q, hw2⟩
    rw [hw2]; clear hw2 w2
    cases b with
    | false =>
      go_wp2
      go_ret
      exact ⟨rfl, HB.out.trans ⟨rfl, rfl, rfl, Nat.le_refl _, fun _ _ => rfl⟩⟩
    | true =>
      have P := hid (hp rfl)
      have hB2 : Below w.heap.size w (w1.drewN q) := HB.out.trans ⟨rfl, rfl, rfl, Nat.le_refl _, fun _ _ => rfl⟩
      have HB2 := hid hB2
      clear hp hB2
      go_wp2_with fail
      refine (clone_any a len cap l (w1.drewN q) HL.out hn (HBY.out.later HB2.out) HN.out).mono ?_
      rintro e w3 ⟨sl, rfl, hru, hb3⟩
      have HB3 := hid (HB2.out.trans (hb3.mono HB2.out.size))
      have HV3 := hid ((show View (w1.drewN q) ps v1 v2 from HV.out).later hb3)
      have HR := hid hru
      clear hb3 hru HV HB2 HB
      go_wp2_with fail
      refine (new_any _ _ _ _ _ _ l w3 w3 HR.out).mono ?_
      rintro e w4 ⟨b, rfl, hi, hb4⟩
      have HI := hid hi
      have HB4 := hid (HB3.out.trans (hb4.mono HB3.out.size))
      have HV4 := hid (HV3.out.later hb4)
      have HR4 := hid (HR.out.later hb4)
      clear hi hb4 HR HV3 HB3
      by_cases hn1 : n < 1
      · go_wp2_with fail
        refine (line_none _ _ _ _ _ _ w4 (.inl hn1) HI.out).mono ?_
        rintro e w5 ⟨rfl, hw5⟩
        rw [hw5]; clear hw5 w5
        go_wp2
        go_ret
        exact ⟨rfl, HB4.out⟩
      · by_cases hn2 : records < n
        · go_wp2_with fail
          refine (line_none _ _ _ _ _ _ w4 (.inr hn2) HI.out).mono ?_
          rintro e w5 ⟨rfl, hw5⟩
          rw [hw5]; clear hw5 w5
          go_wp2
          go_ret
          exact ⟨rfl, HB4.out⟩
        · obtain ⟨b1, b2, b3, b4, b5, b6⟩ := law1 P.out hsm hlps (show 1 ≤ n by omega) (show n ≤ records by omega)
          have hl5 : l.length ≤ 65536 := by have := HL.out; omega
          have L1 := hid (line_any records first step n b sl l ps w4 hl5 hsm HE.out P.out.s1 (by omega) (by omega) P.out.f1 b1 b2 HI.out HR4.out)
          by_cases hne : n < records
          · obtain ⟨c1, c2, c3, c4, c5, c6⟩ := law1 P.out hsm hlps (show 1 ≤ n + 1 by omega) (show n + 1 ≤ records by omega)
            have L2 := hid (line_any records first step (n + 1) b sl l ps w4 hl5 hsm HE.out P.out.s1 (by omega) (by omega) P.out.f1 b1 c2 HI.out HR4.out)
            have S1 := hid (stepAt_any step n v1 v2 ps w4 hsm hlps P.out.s1 (by omega) (by omega) HV4.out)
            have hd := law2 ps first step.toNat n (by omega)
            have hg1 : n = 1 → first + (up ps step.toNat (n - 1).toNat : Nat) = first := law2_one ps first step.toNat n
            have hp0 : 0 ≤ first + (up ps step.toNat (n - 1).toNat : Nat) := by have := P.out.f1; omega
            have hp1 : 0 ≤ first + (up ps step.toNat (n + 1 - 1).toNat : Nat) := by have := P.out.f1; omega
            generalize first + (up ps step.toNat (n - 1).toNat : Nat) = G at *
            generalize first + (up ps step.toNat (n + 1 - 1).toNat : Nat) = G2 at *
            generalize stepAt ps step.toNat n.toNat = S at *
            have HEQ := hid hd
            clear hd b3 b4 b5 b6 c3 c4 c5 c6 hl5 HE HI HR4 HV4 P
            by_cases h1 : n = 1
            · have hG := hg1 h1
              subst hG
              subst h1
              clear hg1
              go_wp2_with fail
              refine L1.out.mono ?_
              rintro e w5 ⟨rfl, hw5⟩
              rw [hw5]; clear hw5 w5
              go_wp2_with fail
              refine L2.out.mono ?_
              rintro e w5 ⟨rfl, hw5⟩
              rw [hw5]; clear hw5 w5
              go_wp2_with fail
              refine S1.out.mono ?_
              rintro e w5 ⟨rfl, hw5⟩
              rw [hw5]; clear hw5 w5
              go_wp2
              go_ret
              exact ⟨ret_bool (beq_iff_eq.2 HEQ.out), HB4.out⟩
            · have h1b : (n == 1) = false := by simpa using h1
              clear hg1 h1
              go_wp2_with fail
              refine L1.out.mono ?_
              rintro e w5 ⟨rfl, hw5⟩
              rw [hw5]; clear hw5 w5
              go_wp2_with fail
              refine L2.out.mono ?_
              rintro e w5 ⟨rfl, hw5⟩
              rw [hw5]; clear hw5 w5
              go_wp2_with fail
              refine S1.out.mono ?_
              rintro e w5 ⟨rfl, hw5⟩
              rw [hw5]; clear hw5 w5
              go_wp2
              go_ret
              exact ⟨ret_bool (beq_iff_eq.2 HEQ.out), HB4.out⟩
          · have hg1 : n = 1 → first + (up ps step.toNat (n - 1).toNat : Nat) = first := law2_one ps first step.toNat n
            generalize first + (up ps step.toNat (n - 1).toNat : Nat) = G at *
            clear b3 b4 b5 b6 hl5 HE HI HR4 HV4 P
            by_cases h1 : n = 1
            · have hG := hg1 h1
              subst hG
              subst h1
              clear hg1
              go_wp2_with fail
              refine L1.out.mono ?_
              rintro e w5 ⟨rfl, hw5⟩
              rw [hw5]; clear hw5 w5
              go_wp2
              go_ret
              exact ⟨rfl, HB4.out⟩
            · have h1b : (n == 1) = false := by simpa using h1
              clear hg1 h1
              go_wp2_with fail
              refine L1.out.mono ?_
              rintro e w5 ⟨rfl, hw5⟩
              rw [hw5]; clear hw5 w5
              go_wp2
              go_ret
              exact ⟨rfl, HB4.out⟩

end Go.Proofs.Qxb6605944a
