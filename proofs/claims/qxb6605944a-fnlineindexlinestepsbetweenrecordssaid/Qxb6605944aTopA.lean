import Derived.Test.Qxb6605944aCalls
namespace Go.Proofs.Qxb6605944a
open Go.RowKit
set_option linter.unusedVariables false

theorem ret_bool {a b : Bool} (h : a = b) : Ending.returned (.bool a) = .returned (.bool b) := by rw [h]

theorem Bytes.later {w w' : World} {a : Option Addr} {l : List UInt8} (h : Bytes w a l) (hb : Below w.heap.size w w') : Bytes w' a l := by
  rcases h with h | ⟨g, o, h1, h2⟩
  · exact .inl h
  · exact .inr ⟨g, o, h1, fun j hj => cell_later hb (h2 j hj)⟩

theorem law1 {records first last step count n : Int} {ps : List (Nat × Nat)} (P : Prem records first last ps step count) (hsm : Small ps) (hn : ps.length ≤ 65536) (h1 : 1 ≤ n) (h2 : n ≤ records) :
    records ≤ 4611686018427387904 ∧ first + (up ps step.toNat (n - 1).toNat : Nat) ≤ 4611686018427387904 ∧ sb ps step.toNat count.toNat (records - n).toNat ≤ 2305843009213693952 ∧
      first + (up ps step.toNat (n - 1).toNat : Nat) = last - (sb ps step.toNat count.toNat (records - n).toNat : Nat) ∧ 0 ≤ last ∧ last ≤ 4611686018427387904 := by
  obtain ⟨f1, f2, s1, s2, c1, c2, hr, hl, ht⟩ := P
  obtain ⟨st, rfl⟩ := Int.eq_ofNat_of_zero_le s1
  obtain ⟨ct, rfl⟩ := Int.eq_ofNat_of_zero_le c1
  have hc := cnt_le ps hsm
  have hub := up_back ps st ct (n - 1).toNat (records - n).toNat (by omega)
  simp only [Int.toNat_natCast]
  unfold sb
  rw [← Int.natCast_mul] at hl ht
  generalize st * ct = m at *
  generalize up ps st (n - 1).toNat = U at *
  generalize min (records - n).toNat ct * st + bk ps.reverse ((records - n).toNat - min (records - n).toNat ct) = S at *
  omega

set_option maxHeartbeats 2000000 in
set_option maxRecDepth 100000 in
theorem top3_low (records first last step count n : Int) (a : Option Addr) (len cap : Nat) (l : List UInt8) (w : World) (hl : l.length = len) (hn : len ≤ 65536) (hby : Bytes w a l) (hnil : a = none → len = 0 ∧ cap = 0) (hr : records < 1) :
    Calls Try.prog 3 #[.int .i64 records, .int .i64 first, .int .i64 last, .slice a len cap, .int .i64 step, .int .i64 count, .int .i64 n] w fun e w' => e = .returned (.bool true) ∧ Below w.heap.size w w' := by
  have C8 := hid (clone_any a len cap l w hl hn hby hnil)
  have h20 : len ≤ 1048576 := by omega
  have C5 := hid (bytes5 records first last step count n a len cap w h20)
  clear hby hnil hl
  by_cases hn1 : n < 1
  all_goals
    have hout : n < 1 ∨ records < n := by omega
    have HO := hid hout
    clear hout
    go_enter Try.func3, Try.ntmps3
    go_wp2_with fail
    refine C5.out.mono ?_
    rintro e wa ⟨rfl, hwa⟩
    rw [hwa]; clear hwa wa
    go_wp2_with fail
    refine C8.out.mono ?_
    rintro e w1 ⟨sl, rfl, hru, hb⟩
    have HB := hid hb
    have HR := hid hru
    clear hb hru
    go_wp2_with fail
    refine (new_any _ _ _ _ _ _ l w1 w1 HR.out).mono ?_
    rintro e w2 ⟨b, rfl, hi, hb2⟩
    have HI := hid hi
    have HB2 := hid hb2
    clear hi hb2
    go_wp2_with fail
    refine (line_none _ _ _ _ _ _ w2 HO.out HI.out).mono ?_
    rintro e w3 ⟨rfl, hw3⟩
    rw [hw3]; clear hw3 w3
    go_wp2
    go_ret
    exact ⟨rfl, HB.out.trans (HB2.out.mono HB.out.size)⟩

set_option maxHeartbeats 2000000 in
set_option maxRecDepth 100000 in
theorem top3_high (records first last step count n : Int) (a : Option Addr) (len cap : Nat) (l : List UInt8) (w : World) (hl : l.length = len) (hn : len ≤ 65536) (hby : Bytes w a l) (hnil : a = none → len = 0 ∧ cap = 0) (hr : 1 ≤ records) (hr2 : records ≤ 9223372036854775807) :
    Calls Try.prog 3 #[.int .i64 records, .int .i64 first, .int .i64 last, .slice a len cap, .int .i64 step, .int .i64 count, .int .i64 n] w fun e w' => e = .returned (.bool true) ∧ Below w.heap.size w w' := by
  have C6 := hid (dec_any a len cap l w hl hn hby)
  have h20 : len ≤ 1048576 := by omega
  have C5 := hid (bytes5 records first last step count n a len cap w h20)
  have HBY := hid hby
  have HN := hid hnil
  have HL := hid hl
  clear hby hnil hl
  go_enter Try.func3, Try.ntmps3
  go_wp2_with fail
  refine C5.out.mono ?_
  rintro e wa ⟨rfl, hwa⟩
  rw [hwa]; clear hwa wa
  go_wp2_with fail
  refine C6.out.mono ?_
  rintro e w1 (⟨rfl, hb⟩ | ⟨ps, v1, v2, rfl, hen, hsm, hv, hb⟩)
  · have HB := hid hb
    clear hb
    go_wp2
    go_ret
    exact ⟨rfl, HB.out⟩
  · have HB := hid hb
    have HV := hid hv
    have HE := hid hen
    have hlps : ps.length ≤ 65536 := by have := Enc.length _ _ _ hen; have := HL.out; omega
    clear hb hv hen
    go_wp2_with fail
    refine (premise_any _ _ _ _ _ _ _ ps w1 hr hr2 hsm hlps HV.out).mono ?_
    rintro e w2 ⟨b, rfl, hp, q, hw2⟩
    rw [hw2]; clear hw2 w2
    cases b with
    | false =>
      go_wp2
      go_ret
      exact ⟨rfl, HB.out.trans ⟨rfl, rfl, rfl, Nat.le_refl _, fun _ _ => rfl⟩⟩
    | true =>
      have P := hid (hp rfl)
      have hB2 : Below w.heap.size w (w1.drewN q) := HB.out.trans ⟨rfl, rfl, rfl, Nat.le_refl _, fun _ _ => rfl⟩
      have HB2 := hid hB2
      clear hp hB2
      go_wp2_with fail
      refine (clone_any a len cap l (w1.drewN q) HL.out hn (HBY.out.later HB2.out) HN.out).mono ?_
      rintro e w3 ⟨sl, rfl, hru, hb3⟩
      have HB3 := hid (HB2.out.trans (hb3.mono HB2.out.size))
      have HV3 := hid ((show View (w1.drewN q) ps v1 v2 from HV.out).later hb3)
      have HR := hid hru
      clear hb3 hru HV HB2 HB
      go_wp2_with fail
      refine (new_any _ _ _ _ _ _ l w3 w3 HR.out).mono ?_
      rintro e w4 ⟨b, rfl, hi, hb4⟩
      have HI := hid hi
      have HB4 := hid (HB3.out.trans (hb4.mono HB3.out.size))
      have HV4 := hid (HV3.out.later hb4)
      have HR4 := hid (HR.out.later hb4)
      clear hi hb4 HR HV3 HB3
      by_cases hn1 : n < 1
      · go_wp2_with fail
        refine (line_none _ _ _ _ _ _ w4 (.inl hn1) HI.out).mono ?_
        rintro e w5 ⟨rfl, hw5⟩
        rw [hw5]; clear hw5 w5
        go_wp2
        go_ret
        exact ⟨rfl, HB4.out⟩
      · by_cases hn2 : records < n
        · go_wp2_with fail
          refine (line_none _ _ _ _ _ _ w4 (.inr hn2) HI.out).mono ?_
          rintro e w5 ⟨rfl, hw5⟩
          rw [hw5]; clear hw5 w5
          go_wp2
          go_ret
          exact ⟨rfl, HB4.out⟩
        · obtain ⟨b1, b2, b3, b4, b5, b6⟩ := law1 P.out hsm hlps (show 1 ≤ n by omega) (show n ≤ records by omega)
          have hl5 : l.length ≤ 65536 := by have := HL.out; omega
          have L1 := hid (line_any records first step n b sl l ps w4 hl5 hsm HE.out P.out.s1 (by omega) (by omega) P.out.f1 b1 b2 HI.out HR4.out)
          have S1 := hid (stepsBack_any step count (records - n) v1 v2 ps w4 hsm hlps P.out.s1 P.out.c1 (by omega) (by omega) b3 HV4.out)
          generalize up ps step.toNat (n - 1).toNat = U at *
          generalize sb ps step.toNat count.toNat (records - n).toNat = S at *
          have HEQ := hid b4
          clear b4 hl5 HE HI HR4 HV4 P
          go_wp2_with fail
          refine L1.out.mono ?_
          rintro e w5 ⟨rfl, hw5⟩
          rw [hw5]; clear hw5 w5
          go_wp2_with fail
          refine S1.out.mono ?_
          rintro e w5 ⟨rfl, hw5⟩
          rw [hw5]; clear hw5 w5
          go_wp2
          go_ret
          exact ⟨ret_bool (beq_iff_eq.2 HEQ.out), HB4.out⟩

end Go.Proofs.Qxb6605944a
