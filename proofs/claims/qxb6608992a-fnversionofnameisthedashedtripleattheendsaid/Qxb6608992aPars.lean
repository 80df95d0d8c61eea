import Derived.Test.Qxb6608992aNum
import Derived.Test.Qxb6608992aTrip
import Derived.Deep.DeepCutAuto
import Derived.Deep.CutBlock
/-
  zzParseTriple (19): it is 'parse' of the bytes.
-/
namespace Go.Proofs.Qxb6608992a
open Go.RowKit
set_option linter.unusedVariables false

def str (l : List UInt8) : Value := .string ⟨l.toArray⟩
/-- The array of three strings, and whether there is one. -/
def triV : Option Tri → Value
  | some (a, b, c) => .tuple #[.agg #[str a, str b, str c], .bool true]
  | none => .tuple #[.agg #[.string ⟨#[]⟩, .string ⟨#[]⟩, .string ⟨#[]⟩], .bool false]

theorem str_extract (t : ByteArray) (i e : Nat) (D : List UInt8) (h : (t.data.toList.drop i).take (e - i) = D) : (t.extract i e) = ⟨D.toArray⟩ := by
  subst h
  apply ByteArray.ext
  simp [ByteArray.data_extract]
  apply Array.ext'
  simp [List.extract_eq_take_drop]

/-- A run of digits from place i on. -/
theorem seg (t : ByteArray) (i : Nat) (hi : i ≤ t.size) : i + ((t.data.toList.drop i).takeWhile isD).length ≤ t.size ∧ t.data.toList.drop (i + ((t.data.toList.drop i).takeWhile isD).length) = (t.data.toList.drop i).dropWhile isD ∧
    t.extract i (i + ((t.data.toList.drop i).takeWhile isD).length) = ⟨((t.data.toList.drop i).takeWhile isD).toArray⟩ := by
  obtain ⟨D, hD⟩ : ∃ D, (t.data.toList.drop i).takeWhile isD = D := ⟨_, rfl⟩
  obtain ⟨R, hR⟩ : ∃ R, (t.data.toList.drop i).dropWhile isD = R := ⟨_, rfl⟩
  have hs : t.data.toList.drop i = D ++ R := by rw [← hD, ← hR]; exact split_digits _
  rw [hD, hR]
  have hl : (t.data.toList.drop i).length = D.length + R.length := by rw [hs]; simp
  have hlen : t.data.toList.length = t.size := by simp
  refine ⟨by simp at hl; omega, ?_, str_extract t i _ D ?_⟩
  · rw [← List.drop_drop, hs]; simp
  · rw [hs, show i + D.length - i = D.length by omega]; simp

theorem tw_nil (t : ByteArray) (i : Nat) (hi : ¬ i < t.size) : ((t.data.toList.drop i).takeWhile isD).length = 0 := by
  rw [List.drop_eq_nil_of_le (by simp; omega)]; rfl
theorem tw_yes (t : ByteArray) (i : Nat) (hi : i < t.size) (h1 : 48 ≤ t[i].toNat) (h2 : t[i].toNat ≤ 57) : ((t.data.toList.drop i).takeWhile isD).length = ((t.data.toList.drop (i + 1)).takeWhile isD).length + 1 := by
  have hd : isD t[i] = true := decide_eq_true ⟨h1, h2⟩
  rw [drop_byte t i hi, List.takeWhile_cons, if_pos hd]; rfl
theorem tw_no (t : ByteArray) (i : Nat) (hi : i < t.size) (h : ¬ (48 ≤ t[i].toNat ∧ t[i].toNat ≤ 57)) : ((t.data.toList.drop i).takeWhile isD).length = 0 := by
  rw [drop_byte t i hi, List.takeWhile_cons, if_neg (by simp only [isD, decide_eq_true_eq]; exact h)]; rfl

/-- What the rest of the text says. -/
theorem dw_end {l : List UInt8} {e n : Nat} (hl : l.length = n) (h : ¬ e < n) : l.drop e = [] := List.drop_eq_nil_of_le (by omega)

set_option maxHeartbeats 4000000 in
set_option maxRecDepth 100000 in
theorem parse_any (t : ByteArray) (w : World) (ht : t.size ≤ 1048576) :
    Calls Try.prog 19 #[.string t] w fun e w' => e = .returned (triV (parse t.data.toList)) ∧ Below w.heap.size w w' := by
  have hlen : t.data.toList.length = t.size := by simp
  obtain ⟨S0, hS0, hS1⟩ : ∃ S0 : Nat, S0 ≤ t.size ∧ t.data.toList.drop S0 = tv t.data.toList ∧ (S0 = 0 ∨ S0 = 1) ∧ (S0 = 1 ↔ ∃ h : 0 < t.size, (t[0]'h).toNat = 118) := by
    by_cases h0 : 0 < t.size
    · have hl := drop_byte t 0 h0
      rw [List.drop_zero] at hl
      by_cases hv : (t[0]'h0).toNat = 118
      · refine ⟨1, h0, ?_, .inr rfl, fun _ => ⟨h0, hv⟩, fun _ => rfl⟩
        have e : t[0] = 118 := UInt8.toNat_inj.1 (by simpa using hv)
        rw [hl, e]
        simp [tv]
      · refine ⟨0, Nat.zero_le _, ?_, .inl rfl, fun h => by omega, fun h => absurd h.2 hv⟩
        have e : t[0] ≠ 118 := fun e => hv (by rw [e]; rfl)
        rw [List.drop_zero, hl]
        simp [tv, e]
    · refine ⟨0, Nat.zero_le _, ?_, .inl rfl, fun h => by omega, fun h => absurd h.1 h0⟩
      have e : t.data.toList = [] := List.eq_nil_of_length_eq_zero (by omega)
      rw [e]
      rfl
  have HT := hid hS1.1
  have HS := hid hS1.2
  clear hS1
  obtain ⟨D0, hD0⟩ : ∃ D0, (t.data.toList.drop S0).takeWhile isD = D0 := ⟨_, rfl⟩
  obtain ⟨E0, hE0⟩ : ∃ E0, S0 + D0.length = E0 := ⟨_, rfl⟩
  have sg0 := seg t S0 hS0
  rw [hD0, hE0] at sg0
  have HD0 := hid hD0
  have HS0 : Hid (S0 ≤ t.size) := hS0
  have HES0 : Hid (S0 + ((t.data.toList.drop S0).takeWhile isD).length = E0) := by show _ = _; rw [hD0, hE0]
  have HG0 := hid sg0.2
  have hEs0 := sg0.1
  have hSE0 : S0 ≤ E0 := by omega
  have HLN := hid hlen
  clear hD0 hE0 sg0 hlen
  obtain ⟨V, hV⟩ : ∃ V, decide (S0 = 1) = V := ⟨_, rfl⟩
  have HVV := hid hV
  clear hV
  go_enter Try.func19, Try.ntmps19
  go_upto_region 3 with fail
  go_cut [17] from 8 (fun v17 wc => v17 = .bool V ∧ wc = ((w.alloc (.cells #[.string ⟨#[]⟩, .string ⟨#[]⟩, .string ⟨#[]⟩] 26)).alloc (.cells #[.string ⟨#[]⟩, .string ⟨#[]⟩, .string ⟨#[]⟩] 26)))
  case first => as_aux_lemma =>
    by_cases h0 : 0 < t.size
    · by_cases hv : (t[0]'h0).toNat = 118
      · have hb : (((t[0]'h0).toNat : Int) == 118) = true := by simp; omega
        have HZ : Hid (S0 = 1) := HS.out.2.2 ⟨h0, hv⟩
        clear hv
        go_wp2
        go_meet
        case rel => exact ⟨by rw [← HVV.out, HZ.out]; rfl, rfl⟩
      · have hb : (((t[0]'h0).toNat : Int) == 118) = false := by simp; omega
        have HZ : Hid (S0 = 0) := by
          rcases HS.out.1 with h | h
          · exact h
          · obtain ⟨_, h'⟩ := HS.out.2.1 h; exact absurd h' hv
        clear hv
        go_wp2
        go_meet
        case rel => exact ⟨by rw [← HVV.out, HZ.out]; rfl, rfl⟩
    · have HZ : Hid (S0 = 0) := by
        rcases HS.out.1 with h | h
        · exact h
        · obtain ⟨h', _⟩ := HS.out.2.1 h; exact absurd h' h0
      go_wp2
      go_meet
      case rel => exact ⟨by rw [← HVV.out, HZ.out]; rfl, rfl⟩
  obtain ⟨hu, hw⟩ := hcut
  subst hu
  subst hw
  go_upto_if 17 with fail
  go_cut [5] from 8 (fun v5 wc => v5 = .int .i64 (S0 : Nat) ∧ wc = ((w.alloc (.cells #[.string ⟨#[]⟩, .string ⟨#[]⟩, .string ⟨#[]⟩] 26)).alloc (.cells #[.string ⟨#[]⟩, .string ⟨#[]⟩, .string ⟨#[]⟩] 26)))
  case first => as_aux_lemma =>
    cases V with
    | true =>
      have HZ : Hid (S0 = 1) := by
        have := HVV.out
        show S0 = 1
        exact of_decide_eq_true this
      go_wp2
      go_meet
      case rel => exact ⟨by rw [HZ.out]; rfl, rfl⟩
    | false =>
      have HZ : Hid (S0 = 0) := by
        rcases HS.out.1 with h | h
        · exact h
        · have := HVV.out
          exact absurd h (of_decide_eq_false this)
      go_wp2
      go_meet
      case rel => exact ⟨by rw [HZ.out]; rfl, rfl⟩
  obtain ⟨hu, hw⟩ := hcut
  subst hu
  subst hw
  go_wp2_with fail
  have HP0 : Hid (parse t.data.toList = parse0 (t.data.toList.drop S0)) := by show _ = _; rw [HT.out]; rfl
  refine wp_loop_rounds 4 ?_
  rw [rounds_succ]
  go_upto_block 2 with fail
  go_cut [5] from 20 (fun v5 wc => v5 = .int .i64 (E0 : Nat) ∧ wc = ((w.alloc (.cells #[.string ⟨#[]⟩, .string ⟨#[]⟩, .string ⟨#[]⟩] 26)).alloc (.cells #[.string ⟨#[]⟩, .string ⟨#[]⟩, .string ⟨#[]⟩] 26)))
  case first => as_aux_lemma =>
    go_wp2_with fail
    go_loop [5] (fun vi => ∃ i : Nat, i ≤ t.size ∧ vi = .int .i64 i ∧ i + ((t.data.toList.drop i).takeWhile isD).length = E0) (fun vi => t.size - (intOf vi).toNat)
    case atStart => exact ⟨S0, HS0.out, by first | rfl | go_num, HES0.out⟩
    case round =>
      obtain ⟨i, hi, rfl, hiE⟩ := hrel
      by_cases hlt : i < t.size
      · by_cases h1 : 48 ≤ t[i].toNat
        · by_cases h2 : t[i].toNat ≤ 57
          · rw [tw_yes t i hlt h1 h2] at hiE
            have HI := hid hiE
            clear hiE
            go_wp2
            go_round
            case rel => exact ⟨i + 1, by omega, by go_num, by have := HI.out; omega⟩
            case measure => simp [intOf]; omega
          · rw [tw_no t i hlt (by omega), Nat.add_zero] at hiE
            have HI := hid hiE
            clear hiE
            go_wp2
            go_meet
            case rel => exact ⟨by rw [HI.out], rfl⟩
        · rw [tw_no t i hlt (by omega), Nat.add_zero] at hiE
          have HI := hid hiE
          clear hiE
          go_wp2
          go_meet
          case rel => exact ⟨by rw [HI.out], rfl⟩
      · rw [tw_nil t i hlt, Nat.add_zero] at hiE
        have HI := hid hiE
        clear hiE
        go_wp2
        go_meet
        case rel => exact ⟨by rw [HI.out], rfl⟩
  obtain ⟨hu, hw⟩ := hcut
  subst hu
  subst hw
  have e8 : (t.extract S0 E0).data.toList = D0 := by rw [HG0.out.2]
  have C8 := hid (isnum_any (t.extract S0 E0) ((w.alloc (.cells #[.string ⟨#[]⟩, .string ⟨#[]⟩, .string ⟨#[]⟩] 26)).alloc (.cells #[.string ⟨#[]⟩, .string ⟨#[]⟩, .string ⟨#[]⟩] 26)) (by unfold maxLen; simp; omega))
  rw [e8] at C8
  clear e8
  cases hn : isN D0 with
  | false =>
    rw [hn] at C8
    have HN : Hid (parse t.data.toList = none) := by
      show _ = _
      rw [HP0.out]
      unfold parse0; rw [HD0.out, hn]; rfl
    clear hn
    go_wp2_with fail
    refine C8.out.mono ?_
    rintro e wa ⟨rfl, hwa⟩
    rw [hwa]; clear hwa wa
    go_wp2
    exact bodyPost_ret (v := triV none) (by simp [results, Try.results19, go_sem, triV]) rfl ⟨by rw [HN.out], by repeat (first | exact Below.refl _ _ | refine Below.alloc ?_ (by simp) _)⟩
  | true =>
    rw [hn] at C8
    by_cases hend : E0 < t.size
    · by_cases hdash : t[E0].toNat = 45
      · have hdb : ((t[E0].toNat : Int) != 45) = false := by simp; omega
        have HP1 : Hid (parse t.data.toList = parse1 D0 (t.data.toList.drop (E0 + 1))) := by
          show _ = _
          rw [HP0.out]
          unfold parse0
          rw [HD0.out, hn, ← HG0.out.1, drop_byte t E0 hend]
          have e45 : t[E0] = 45 := UInt8.toNat_inj.1 (by simpa using hdash)
          simp [e45]
        clear hn hdash
        go_wp2_with fail
        refine C8.out.mono ?_
        rintro e wa ⟨rfl, hwa⟩
        rw [hwa]; clear hwa wa C8
        go_wp2_with fail
        obtain ⟨S1, hSe1⟩ : ∃ S1, E0 + 1 = S1 := ⟨_, rfl⟩
        have hS1 : S1 ≤ t.size := by omega
        rw [hSe1] at HP1
        have hSi1 : (E0 : Int) + 1 = (S1 : Int) := by omega
        rw [hSi1]
        clear hSe1 hSi1
        obtain ⟨D1, hD1⟩ : ∃ D1, (t.data.toList.drop S1).takeWhile isD = D1 := ⟨_, rfl⟩
        obtain ⟨E1, hE1⟩ : ∃ E1, S1 + D1.length = E1 := ⟨_, rfl⟩
        have sg1 := seg t S1 hS1
        rw [hD1, hE1] at sg1
        have HD1 := hid hD1
        have HS1 : Hid (S1 ≤ t.size) := hS1
        have HES1 : Hid (S1 + ((t.data.toList.drop S1).takeWhile isD).length = E1) := by show _ = _; rw [hD1, hE1]
        have HG1 := hid sg1.2
        have hEs1 := sg1.1
        have hSE1 : S1 ≤ E1 := by omega
        clear hD1 hE1 sg1
        rw [rounds_succ]
        go_upto_block 2 with fail
        go_cut [5] from 20 (fun v5 wc => v5 = .int .i64 (E1 : Nat) ∧ wc = ((w.alloc (.cells #[.string ⟨#[]⟩, .string ⟨#[]⟩, .string ⟨#[]⟩] 26)).alloc (.cells #[.string (t.extract S0 E0), .string ⟨#[]⟩, .string ⟨#[]⟩] 26)))
        case first => as_aux_lemma =>
          go_wp2_with fail
          go_loop [5] (fun vi => ∃ i : Nat, i ≤ t.size ∧ vi = .int .i64 i ∧ i + ((t.data.toList.drop i).takeWhile isD).length = E1) (fun vi => t.size - (intOf vi).toNat)
          case atStart => exact ⟨S1, HS1.out, by first | rfl | go_num, HES1.out⟩
          case round =>
            obtain ⟨i, hi, rfl, hiE⟩ := hrel
            by_cases hlt : i < t.size
            · by_cases h1 : 48 ≤ t[i].toNat
              · by_cases h2 : t[i].toNat ≤ 57
                · rw [tw_yes t i hlt h1 h2] at hiE
                  have HI := hid hiE
                  clear hiE
                  go_wp2
                  go_round
                  case rel => exact ⟨i + 1, by omega, by go_num, by have := HI.out; omega⟩
                  case measure => simp [intOf]; omega
                · rw [tw_no t i hlt (by omega), Nat.add_zero] at hiE
                  have HI := hid hiE
                  clear hiE
                  go_wp2
                  go_meet
                  case rel => exact ⟨by rw [HI.out], rfl⟩
              · rw [tw_no t i hlt (by omega), Nat.add_zero] at hiE
                have HI := hid hiE
                clear hiE
                go_wp2
                go_meet
                case rel => exact ⟨by rw [HI.out], rfl⟩
            · rw [tw_nil t i hlt, Nat.add_zero] at hiE
              have HI := hid hiE
              clear hiE
              go_wp2
              go_meet
              case rel => exact ⟨by rw [HI.out], rfl⟩
        obtain ⟨hu, hw⟩ := hcut
        subst hu
        subst hw
        have e8 : (t.extract S1 E1).data.toList = D1 := by rw [HG1.out.2]
        have C8 := hid (isnum_any (t.extract S1 E1) ((w.alloc (.cells #[.string ⟨#[]⟩, .string ⟨#[]⟩, .string ⟨#[]⟩] 26)).alloc (.cells #[.string (t.extract S0 E0), .string ⟨#[]⟩, .string ⟨#[]⟩] 26)) (by unfold maxLen; simp; omega))
        rw [e8] at C8
        clear e8
        cases hn : isN D1 with
        | false =>
          rw [hn] at C8
          have HN : Hid (parse t.data.toList = none) := by
            show _ = _
            rw [HP1.out]
            unfold parse1; rw [HD1.out, hn]; rfl
          clear hn
          go_wp2_with fail
          refine C8.out.mono ?_
          rintro e wa ⟨rfl, hwa⟩
          rw [hwa]; clear hwa wa
          go_wp2
          exact bodyPost_ret (v := triV none) (by simp [results, Try.results19, go_sem, triV]) rfl ⟨by rw [HN.out], by repeat (first | exact Below.refl _ _ | refine Below.alloc ?_ (by simp) _)⟩
        | true =>
          rw [hn] at C8
          by_cases hend : E1 < t.size
          · by_cases hdash : t[E1].toNat = 45
            · have hdb : ((t[E1].toNat : Int) != 45) = false := by simp; omega
              have HP2 : Hid (parse t.data.toList = parse2 D0 D1 (t.data.toList.drop (E1 + 1))) := by
                show _ = _
                rw [HP1.out]
                unfold parse1
                rw [HD1.out, hn, ← HG1.out.1, drop_byte t E1 hend]
                have e45 : t[E1] = 45 := UInt8.toNat_inj.1 (by simpa using hdash)
                simp [e45]
              clear hn hdash
              go_wp2_with fail
              refine C8.out.mono ?_
              rintro e wa ⟨rfl, hwa⟩
              rw [hwa]; clear hwa wa C8
              go_wp2_with fail
              obtain ⟨S2, hSe2⟩ : ∃ S2, E1 + 1 = S2 := ⟨_, rfl⟩
              have hS2 : S2 ≤ t.size := by omega
              rw [hSe2] at HP2
              have hSi2 : (E1 : Int) + 1 = (S2 : Int) := by omega
              rw [hSi2]
              clear hSe2 hSi2
              obtain ⟨D2, hD2⟩ : ∃ D2, (t.data.toList.drop S2).takeWhile isD = D2 := ⟨_, rfl⟩
              obtain ⟨E2, hE2⟩ : ∃ E2, S2 + D2.length = E2 := ⟨_, rfl⟩
              have sg2 := seg t S2 hS2
              rw [hD2, hE2] at sg2
              have HD2 := hid hD2
              have HS2 : Hid (S2 ≤ t.size) := hS2
              have HES2 : Hid (S2 + ((t.data.toList.drop S2).takeWhile isD).length = E2) := by show _ = _; rw [hD2, hE2]
              have HG2 := hid sg2.2
              have hEs2 := sg2.1
              have hSE2 : S2 ≤ E2 := by omega
              clear hD2 hE2 sg2
              rw [rounds_succ]
              go_upto_block 2 with fail
              go_cut [5] from 20 (fun v5 wc => v5 = .int .i64 (E2 : Nat) ∧ wc = ((w.alloc (.cells #[.string ⟨#[]⟩, .string ⟨#[]⟩, .string ⟨#[]⟩] 26)).alloc (.cells #[.string (t.extract S0 E0), .string (t.extract S1 E1), .string ⟨#[]⟩] 26)))
              case first => as_aux_lemma =>
                go_wp2_with fail
                go_loop [5] (fun vi => ∃ i : Nat, i ≤ t.size ∧ vi = .int .i64 i ∧ i + ((t.data.toList.drop i).takeWhile isD).length = E2) (fun vi => t.size - (intOf vi).toNat)
                case atStart => exact ⟨S2, HS2.out, by first | rfl | go_num, HES2.out⟩
                case round =>
                  obtain ⟨i, hi, rfl, hiE⟩ := hrel
                  by_cases hlt : i < t.size
                  · by_cases h1 : 48 ≤ t[i].toNat
                    · by_cases h2 : t[i].toNat ≤ 57
                      · rw [tw_yes t i hlt h1 h2] at hiE
                        have HI := hid hiE
                        clear hiE
                        go_wp2
                        go_round
                        case rel => exact ⟨i + 1, by omega, by go_num, by have := HI.out; omega⟩
                        case measure => simp [intOf]; omega
                      · rw [tw_no t i hlt (by omega), Nat.add_zero] at hiE
                        have HI := hid hiE
                        clear hiE
                        go_wp2
                        go_meet
                        case rel => exact ⟨by rw [HI.out], rfl⟩
                    · rw [tw_no t i hlt (by omega), Nat.add_zero] at hiE
                      have HI := hid hiE
                      clear hiE
                      go_wp2
                      go_meet
                      case rel => exact ⟨by rw [HI.out], rfl⟩
                  · rw [tw_nil t i hlt, Nat.add_zero] at hiE
                    have HI := hid hiE
                    clear hiE
                    go_wp2
                    go_meet
                    case rel => exact ⟨by rw [HI.out], rfl⟩
              obtain ⟨hu, hw⟩ := hcut
              subst hu
              subst hw
              have e8 : (t.extract S2 E2).data.toList = D2 := by rw [HG2.out.2]
              have C8 := hid (isnum_any (t.extract S2 E2) ((w.alloc (.cells #[.string ⟨#[]⟩, .string ⟨#[]⟩, .string ⟨#[]⟩] 26)).alloc (.cells #[.string (t.extract S0 E0), .string (t.extract S1 E1), .string ⟨#[]⟩] 26)) (by unfold maxLen; simp; omega))
              rw [e8] at C8
              clear e8
              cases hn : isN D2 with
              | false =>
                rw [hn] at C8
                have HN : Hid (parse t.data.toList = none) := by
                  show _ = _
                  rw [HP2.out]
                  unfold parse2; rw [HD2.out, hn]; rfl
                clear hn
                go_wp2_with fail
                refine C8.out.mono ?_
                rintro e wa ⟨rfl, hwa⟩
                rw [hwa]; clear hwa wa
                go_wp2
                exact bodyPost_ret (v := triV none) (by simp [results, Try.results19, go_sem, triV]) rfl ⟨by rw [HN.out], by repeat (first | exact Below.refl _ _ | refine Below.alloc ?_ (by simp) _)⟩
              | true =>
                rw [hn] at C8
                by_cases hend : E2 < t.size
                · have hdb : ((E2 : Int) != (t.size : Int)) = true := by simp; omega
                  have HN : Hid (parse t.data.toList = none) := by
                    show _ = _
                    rw [HP2.out]
                    unfold parse2
                    rw [HD2.out, hn, ← HG2.out.1, drop_byte t E2 hend]
                    rfl
                  clear hn
                  go_wp2_with fail
                  refine C8.out.mono ?_
                  rintro e wa ⟨rfl, hwa⟩
                  rw [hwa]; clear hwa wa C8
                  go_wp2_with fail
                  rw [rounds_succ]
                  go_wp2
                  exact bodyPost_ret (v := triV none) (by simp [results, Try.results19, go_sem, triV]) rfl ⟨by rw [HN.out], by repeat (first | exact Below.refl _ _ | refine Below.alloc ?_ (by simp) _)⟩
                · obtain rfl : E2 = t.size := by omega
                  have HN : Hid (parse t.data.toList = some (D0, D1, D2)) := by
                    show _ = _
                    rw [HP2.out]
                    unfold parse2
                    rw [HD2.out, hn, ← HG2.out.1, dw_end HLN.out hend]
                    rfl
                  have HV : Hid (triV (some (D0, D1, D2)) = .tuple #[.agg #[.string (t.extract S0 E0), .string (t.extract S1 E1), .string (t.extract S2 t.size)], .bool true]) := by
                    show _ = _
                    rw [HG0.out.2, HG1.out.2, HG2.out.2]
                    rfl
                  clear hn
                  go_wp2_with fail
                  refine C8.out.mono ?_
                  rintro e wa ⟨rfl, hwa⟩
                  rw [hwa]; clear hwa wa C8
                  go_wp2_with fail
                  rw [rounds_succ]
                  go_wp2
                  exact bodyPost_ret (v := .tuple #[.agg #[.string (t.extract S0 E0), .string (t.extract S1 E1), .string (t.extract S2 t.size)], .bool true]) (by simp [results, Try.results19, go_sem]) rfl ⟨by rw [HN.out, HV.out], by repeat (first | exact Below.refl _ _ | refine Below.alloc ?_ (by simp) _)⟩
            · have hdb : ((t[E1].toNat : Int) != 45) = true := by simp; omega
              have HN : Hid (parse t.data.toList = none) := by
                show _ = _
                rw [HP1.out]
                unfold parse1
                rw [HD1.out, hn, ← HG1.out.1, drop_byte t E1 hend]
                have e45 : t[E1] ≠ 45 := fun e => hdash (by rw [e]; rfl)
                simp [e45]
              clear hn hdash
              go_wp2_with fail
              refine C8.out.mono ?_
              rintro e wa ⟨rfl, hwa⟩
              rw [hwa]; clear hwa wa C8
              go_wp2
              exact bodyPost_ret (v := triV none) (by simp [results, Try.results19, go_sem, triV]) rfl ⟨by rw [HN.out], by repeat (first | exact Below.refl _ _ | refine Below.alloc ?_ (by simp) _)⟩
          · have HN : Hid (parse t.data.toList = none) := by
              show _ = _
              rw [HP1.out]
              unfold parse1
              rw [HD1.out, hn, ← HG1.out.1, dw_end HLN.out hend]
              rfl
            clear hn
            go_wp2_with fail
            refine C8.out.mono ?_
            rintro e wa ⟨rfl, hwa⟩
            rw [hwa]; clear hwa wa C8
            go_wp2
            exact bodyPost_ret (v := triV none) (by simp [results, Try.results19, go_sem, triV]) rfl ⟨by rw [HN.out], by repeat (first | exact Below.refl _ _ | refine Below.alloc ?_ (by simp) _)⟩
      · have hdb : ((t[E0].toNat : Int) != 45) = true := by simp; omega
        have HN : Hid (parse t.data.toList = none) := by
          show _ = _
          rw [HP0.out]
          unfold parse0
          rw [HD0.out, hn, ← HG0.out.1, drop_byte t E0 hend]
          have e45 : t[E0] ≠ 45 := fun e => hdash (by rw [e]; rfl)
          simp [e45]
        clear hn hdash
        go_wp2_with fail
        refine C8.out.mono ?_
        rintro e wa ⟨rfl, hwa⟩
        rw [hwa]; clear hwa wa C8
        go_wp2
        exact bodyPost_ret (v := triV none) (by simp [results, Try.results19, go_sem, triV]) rfl ⟨by rw [HN.out], by repeat (first | exact Below.refl _ _ | refine Below.alloc ?_ (by simp) _)⟩
    · have HN : Hid (parse t.data.toList = none) := by
        show _ = _
        rw [HP0.out]
        unfold parse0
        rw [HD0.out, hn, ← HG0.out.1, dw_end HLN.out hend]
        rfl
      clear hn
      go_wp2_with fail
      refine C8.out.mono ?_
      rintro e wa ⟨rfl, hwa⟩
      rw [hwa]; clear hwa wa C8
      go_wp2
      exact bodyPost_ret (v := triV none) (by simp [results, Try.results19, go_sem, triV]) rfl ⟨by rw [HN.out], by repeat (first | exact Below.refl _ _ | refine Below.alloc ?_ (by simp) _)⟩

end Go.Proofs.Qxb6608992a
