import Derived.Test.Qxb6605944aRows
import Derived.Test.Qxb6605944aPlain
import Derived.Test.Qxb6605944aShelf
import Derived.WalkKit
namespace Go.Proofs.Qxb6605944a
open Go.RowKit
set_option linter.unusedVariables false

theorem hid {p : Prop} (h : p) : Hid p := h

theorem dec_eq {l : List UInt8} (h : ok5 l = true) : Lib.uvarintDec l = (uvV l, (uvN l : Int)) := by
  have := (ok5_iff h).1
  unfold uvV
  rw [← this]

/-- binary.Uvarint where the number ends within five bytes. -/
theorem uvarint_lib (g o n c : Nat) (l : List UInt8) (w : World) (hl : l.length = n) (hok : ok5 l = true) (hcell : ∀ j (hj : j < l.length), w.cell? ⟨g, o + j, none⟩ = some (.int .u8 (l[j]).toNat)) :
    Calls Try.prog 16 #[.slice (some ⟨g, o, none⟩) n c] w fun e w' => e = .returned (.tuple #[.int .u64 (uvV l), .int .i64 (uvN l)]) ∧ w' = w := by
  have h := Try.binary_Uvarint g o n c l w hl hcell
  rw [dec_eq hok] at h
  exact h

def lenOf : Value → Nat | .slice _ n _ => n | _ => 0
theorem slice_shape {a : Option Addr} {n n' c c' : Nat} (h : n = n') (hc : c = c') : Value.slice a n c = .slice a n' c' := by rw [h, hc]
theorem ret_line {a b : Int} {t : Bool} (h : a = b) : Ending.returned (.tuple #[.int .i64 a, .bool t]) = .returned (.tuple #[.int .i64 b, .bool t]) := by rw [h]

set_option maxHeartbeats 1000000 in
set_option maxRecDepth 100000 in
theorem line_some (records first last step count n : Int) (b g c : Nat) (l : List UInt8) (ps : List (Nat × Nat)) (w : World)
    (hl : l.length ≤ 65536) (hlc : l.length ≤ c) (hc : c ≤ 65536) (hsm : Small ps) (he : Enc ps l []) (h0 : 0 ≤ step) (h1 : 1 ≤ n) (h2 : n ≤ records) (hf : 1 ≤ first) (hr : records ≤ 4611686018427387904)
    (hV : first + (up ps step.toNat (n - 1).toNat : Nat) ≤ 4611686018427387904)
    (k0 : w.cell? ⟨b, 0, none⟩ = some (.int .i64 records)) (k1 : w.cell? ⟨b, 1, none⟩ = some (.int .i64 first)) (k3 : w.cell? ⟨b, 3, none⟩ = some (.slice (some ⟨g, 0, none⟩) l.length c)) (k4 : w.cell? ⟨b, 4, none⟩ = some (.int .i64 step))
    (hcell : ∀ j (hj : j < l.length), w.cell? ⟨g, j, none⟩ = some (.int .u8 (l[j]).toNat)) :
    Calls Try.prog 15 #[.pointer (some ⟨b, 0, none⟩), .int .i64 n] w
      fun e w' => e = .returned (.tuple #[.int .i64 (first + (up ps step.toNat (n - 1).toNat : Nat)), .bool true]) ∧ w' = w := by
  obtain ⟨st, rfl⟩ := Int.eq_ofNat_of_zero_le h0
  obtain ⟨m, hm⟩ := Int.eq_ofNat_of_zero_le (show 0 ≤ n - 1 by omega)
  obtain rfl : n = (m : Int) + 1 := by omega
  clear hm
  obtain ⟨f, rfl⟩ := Int.eq_ofNat_of_zero_le (show 0 ≤ first by omega)
  simp only [Int.toNat_natCast, Int.add_sub_cancel] at hV ⊢
  generalize hVV : up ps st m = V at hV ⊢
  have HV : Hid (up ps st m = V) := hVV
  clear hVV
  go_enter Try.func15, Try.ntmps15
  go_wp2
  go_loop [6, 7, 8] (fun vl vs vb => ∃ (j k ln : Nat) (ao : Option Addr) (qs : List (Nat × Nat)), j ≤ l.length ∧ vl = .int .i64 ln ∧ vs = .int .i64 k ∧ vb = .slice ao (l.length - j) (c - j) ∧ (j < l.length → ao = some ⟨g, j, none⟩) ∧ k ≤ m ∧ Small qs ∧ Enc qs (l.drop j) [] ∧ ln + up qs st k = f + V)
    (fun _ _ vb => lenOf vb)
  case atStart => exact ⟨0, m, f, _, ps, by omega, rfl, by go_num, rfl, fun _ => rfl, by omega, hsm, he, by rw [HV.out]⟩
  case round =>
    obtain ⟨j, k, ln, ao, qs, hj, rfl, rfl, rfl, hao, hk, hqs, hen, hup⟩ := hrel
    by_cases hk0 : 0 < k
    · by_cases hjl : j < l.length
      · obtain rfl := hao hjl
        obtain ⟨s, ct, q2, rfl⟩ : ∃ s ct q2, qs = (s, ct) :: q2 := by
          cases qs with
          | nil => exfalso; have : l.drop j = [] := hen; simp at this; omega
          | cons p q2 => exact ⟨p.1, p.2, q2, rfl⟩
        obtain ⟨o1, v1, o2, v2, hen2⟩ := hen
        simp only at v1 v2
        have n1 := ok5_iff o1
        have n2 := ok5_iff o2
        have l1 := nx_length o1
        have l2 := nx_length o2
        have hb := hqs _ (List.mem_cons_self ..)
        simp only at hb
        have hq2 : Small q2 := fun q hq => hqs q (List.mem_cons_of_mem _ hq)
        have U1 := fun W => uvarint_lib g j (l.length - j) (c - j) (l.drop j) W (by simp) o1
        have U2 := fun W => uvarint_lib g (j + uvN (l.drop j)) (l.length - j - uvN (l.drop j)) (c - j - uvN (l.drop j)) (nx (l.drop j)) W (by unfold nx; simp; omega) o2
        have C1 : ∀ i (hi : i < (l.drop j).length), w.cell? ⟨g, j + i, none⟩ = some (.int .u8 ((l.drop j)[i]).toNat) := by
          intro i hi
          have hi' : j + i < l.length := by simp at hi; omega
          rw [hcell (j + i) hi']; simp
        have C2 : ∀ i (hi : i < (nx (l.drop j)).length), w.cell? ⟨g, j + uvN (l.drop j) + i, none⟩ = some (.int .u8 ((nx (l.drop j))[i]).toNat) := by
          intro i hi
          have hi' : j + uvN (l.drop j) + i < l.length := by unfold nx at hi; simp at hi; omega
          rw [hcell (j + uvN (l.drop j) + i) hi']; unfold nx; simp [Nat.add_assoc]
        rw [v1] at U1
        rw [v2] at U2
        have E3 : nx (nx (l.drop j)) = l.drop (j + uvN (l.drop j) + uvN (nx (l.drop j))) := by unfold nx; simp [Nat.add_assoc]
        rw [E3] at hen2
        replace U1 := U1 w C1
        replace U2 := U2 w C2
        clear C1 C2 E3 v1 v2
        simp only [List.length_drop] at n1 n2 l1 l2
        generalize uvN (l.drop j) = N1 at *
        generalize uvN (nx (l.drop j)) = N2 at *
        generalize (nx (l.drop j)).length = L2 at *
        simp only [up] at hup
        have HU : Hid (ln + (min k ct * s + up q2 st (k - min k ct)) = f + V) := hup
        have HN1 : 1 ≤ N1 ∧ N1 ≤ 5 ∧ N1 ≤ l.length - j := n1.2
        have HN2 : 1 ≤ N2 ∧ N2 ≤ 5 ∧ N2 ≤ l.length - j - N1 := by omega
        have hen3 := hid hen2
        have HU1 := hid U1
        have HU2 := hid U2
        clear U1 U2
        clear n1 n2 hup hen2 l1 l2 hcell HV he hsm hqs k0 k1 k3
        have hb1 := hb.1
        have hb2 := hb.2
        by_cases hkc : k ≤ ct
        · have e1 : min k ct = k := by omega
          have hmin : min (k : Int) (ct : Int) = (k : Int) := by omega
          have hU := HU.out
          rw [e1, Nat.sub_self, up_zero] at hU
          have hm1 : ((k : Int) * (s : Int)) ≤ 4611686018427387904 := by rw [← Int.natCast_mul]; omega
          have hm2 : 0 ≤ ((k : Int) * (s : Int)) := by rw [← Int.natCast_mul]; omega
          have hm3 : (ln : Int) + ((k : Int) * (s : Int)) ≤ 4611686018427387904 := by rw [← Int.natCast_mul]; omega
          have HU3 := hid hU
          clear hU e1 HU hb
          go_wp2_with fail
          refine HU1.out.mono ?_
          rintro e w1 ⟨rfl, rfl⟩
          clear HU1
          go_wp2_with fail
          refine HU2.out.mono ?_
          rintro e w1 ⟨rfl, rfl⟩
          clear HU2
          go_wp2
          go_round
          case rel => exact ⟨j + N1 + N2, 0, ln + k * s, _, q2, by omega, by go_num, by go_num, slice_shape (by omega) (by omega), fun _ => by rw [if_neg (by omega)], by omega, hq2, hen3.out, by have := HU3.out; rw [up_zero]; omega⟩
          case measure => simp only [lenOf]; omega
        · have e1 : min k ct = ct := by omega
          have hmin : min (k : Int) (ct : Int) = (ct : Int) := by omega
          have hU := HU.out
          rw [e1] at hU
          have hm1 : ((ct : Int) * (s : Int)) ≤ 4611686018427387904 := by rw [← Int.natCast_mul]; omega
          have hm2 : 0 ≤ ((ct : Int) * (s : Int)) := by rw [← Int.natCast_mul]; omega
          have hm3 : (ln : Int) + ((ct : Int) * (s : Int)) ≤ 4611686018427387904 := by rw [← Int.natCast_mul]; omega
          have HU3 := hid hU
          clear hU e1 HU hb
          go_wp2_with fail
          refine HU1.out.mono ?_
          rintro e w1 ⟨rfl, rfl⟩
          clear HU1
          go_wp2_with fail
          refine HU2.out.mono ?_
          rintro e w1 ⟨rfl, rfl⟩
          clear HU2
          go_wp2
          go_round
          case rel => exact ⟨j + N1 + N2, k - ct, ln + ct * s, _, q2, by omega, by go_num, by go_num, slice_shape (by omega) (by omega), fun _ => by rw [if_neg (by omega)], by omega, hq2, hen3.out, by have := HU3.out; omega⟩
          case measure => simp only [lenOf]; omega
      · obtain rfl : j = l.length := by omega
        obtain rfl : qs = [] := by
          have := Enc.length _ _ _ hen
          simp at this
          exact List.length_eq_zero_iff.1 (by omega)
        simp only [up] at hup
        have hm1 : ((k : Int) * (st : Int)) ≤ 4611686018427387904 := by rw [← Int.natCast_mul]; omega
        have hm2 : 0 ≤ ((k : Int) * (st : Int)) := by rw [← Int.natCast_mul]; omega
        have hm3 : (ln : Int) + ((k : Int) * (st : Int)) ≤ 4611686018427387904 := by rw [← Int.natCast_mul]; omega
        have HU3 := hid hup
        have hz : l.length - l.length = 0 := by omega
        clear hup hao hen hqs hcell HV he hsm k0 k1 k3
        go_wp2
        go_ret2
        exact ⟨ret_line (by have := HU3.out; rw [← Int.natCast_mul]; omega), rfl⟩
    · obtain rfl : k = 0 := by omega
      rw [up_zero] at hup
      have hln : (ln : Int) ≤ 4611686018427387904 := by omega
      have HU3 := hid hup
      clear hup hao hen hqs hcell HV he hsm k0 k1 k3
      go_wp2
      go_ret2
      exact ⟨ret_line (by have := HU3.out; omega), rfl⟩

set_option maxHeartbeats 1000000 in
set_option maxRecDepth 100000 in
theorem line_nil (records first last step count n : Int) (b : Nat) (w : World)
    (h0 : 0 ≤ step) (h1 : 1 ≤ n) (h2 : n ≤ records) (hf : 1 ≤ first) (hr : records ≤ 4611686018427387904)
    (hV : first + (up [] step.toNat (n - 1).toNat : Nat) ≤ 4611686018427387904)
    (k0 : w.cell? ⟨b, 0, none⟩ = some (.int .i64 records)) (k1 : w.cell? ⟨b, 1, none⟩ = some (.int .i64 first)) (k3 : w.cell? ⟨b, 3, none⟩ = some (.slice none 0 0)) (k4 : w.cell? ⟨b, 4, none⟩ = some (.int .i64 step)) :
    Calls Try.prog 15 #[.pointer (some ⟨b, 0, none⟩), .int .i64 n] w
      fun e w' => e = .returned (.tuple #[.int .i64 (first + (up [] step.toNat (n - 1).toNat : Nat)), .bool true]) ∧ w' = w := by
  obtain ⟨st, rfl⟩ := Int.eq_ofNat_of_zero_le h0
  obtain ⟨m, hm⟩ := Int.eq_ofNat_of_zero_le (show 0 ≤ n - 1 by omega)
  obtain rfl : n = (m : Int) + 1 := by omega
  clear hm
  obtain ⟨f, rfl⟩ := Int.eq_ofNat_of_zero_le (show 0 ≤ first by omega)
  simp only [Int.toNat_natCast, Int.add_sub_cancel, up] at hV ⊢
  have hm1 : ((m : Int) * (st : Int)) ≤ 4611686018427387904 := by rw [← Int.natCast_mul]; omega
  have hm2 : 0 ≤ ((m : Int) * (st : Int)) := by rw [← Int.natCast_mul]; omega
  have hm3 : (f : Int) + ((m : Int) * (st : Int)) ≤ 4611686018427387904 := by rw [← Int.natCast_mul]; omega
  clear hV
  by_cases hm0 : 0 < m
  all_goals
    go_enter Try.func15, Try.ntmps15
    go_wp2
    refine wp_loop_rounds 1 ?_
    rw [rounds_succ]
    go_wp2
    go_ret2
    exact ⟨ret_line (by rw [← Int.natCast_mul]), rfl⟩

set_option maxHeartbeats 1000000 in
set_option maxRecDepth 100000 in
/-- Outside 1..records: (0, false). -/
theorem line_out (records n : Int) (b : Nat) (w : World) (h : n < 1 ∨ records < n) (k0 : w.cell? ⟨b, 0, none⟩ = some (.int .i64 records)) :
    Calls Try.prog 15 #[.pointer (some ⟨b, 0, none⟩), .int .i64 n] w
      fun e w' => e = .returned (.tuple #[.int .i64 0, .bool false]) ∧ w' = w := by
  by_cases h1 : n < 1
  · go_enter Try.func15, Try.ntmps15
    go_wp2
    go_ret2
    exact ⟨rfl, rfl⟩
  · have h2 : records < n := by omega
    go_enter Try.func15, Try.ntmps15
    go_wp2
    go_ret2
    exact ⟨rfl, rfl⟩

end Go.Proofs.Qxb6605944a
