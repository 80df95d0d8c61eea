import Derived.Test.Qxb6605944aRows
import Derived.Test.Qxb6605944aPlain
import Derived.WalkKit
import Derived.Lib.VarintBits
import Derived.Laws.Closers25b
/-
  zzUvarint (function 14): what it returns, by 'Lib.uvarintDec' of the bytes from i on. The world is as it was. (The five cases are laid by program.)
-/
namespace Go.Proofs.Qxb6605944a
open Go.RowKit
set_option linter.unusedVariables false

def uvRes (l : List UInt8) : Value := if ok5 l then .tuple #[.int .u64 (uvV l), .int .i64 (uvN l), .bool true] else .tuple #[.int .u64 0, .int .i64 0, .bool false]

theorem uvRes_yes {l : List UInt8} (h : ok5 l = true) : uvRes l = .tuple #[.int .u64 (uvV l), .int .i64 (uvN l), .bool true] := by unfold uvRes; rw [if_pos h]
theorem uvRes_no {l : List UInt8} (h : ok5 l = false) : uvRes l = .tuple #[.int .u64 0, .int .i64 0, .bool false] := by unfold uvRes; rw [if_neg (by simp [h])]

theorem res_yes {l : List UInt8} (v k : Nat) (h : Lib.uvarintDec l = (v, (k : Int))) (h1 : 1 ≤ k) (h5 : k ≤ 5) : Ending.returned (.tuple #[.int .u64 v, .int .i64 k, .bool true]) = .returned (uvRes l) := by
  have e : ok5 l = true := by unfold ok5; rw [h]; simp; omega
  rw [uvRes_yes e]
  unfold uvV uvN
  rw [h]
  rfl
theorem res_no {l : List UInt8} (h : (Lib.uvarintDec l).2 ≤ 0 ∨ 6 ≤ (Lib.uvarintDec l).2) : Ending.returned (.tuple #[.int .u64 0, .int .i64 0, .bool false]) = .returned (uvRes l) := by
  have e : ok5 l = false := by unfold ok5; simp; omega
  rw [uvRes_no e]

set_option maxHeartbeats 4000000 in
set_option maxRecDepth 100000 in
theorem uvarint_any (g o n c i : Nat) (l : List UInt8) (w : World) (hl : l.length = n) (hn : n ≤ 65536) (hi : i ≤ n) (hcell : ∀ j (hj : j < l.length), w.cell? ⟨g, o + j, none⟩ = some (.int .u8 (l[j]).toNat)) :
    Calls Try.prog 14 #[.slice (some ⟨g, o, none⟩) n c, .int .i64 i] w fun e w' => e = .returned (uvRes (l.drop i)) ∧ w' = w := by
  go_enter Try.func14, Try.ntmps14
  go_wp2
  go_loop [7, 8, 9] (fun vx vs vi => ∃ k acc : Nat, vi = .int .i64 k ∧ vs = .int .u64 ((7 * k : Nat) : Int) ∧ vx = .int .u64 acc ∧ k ≤ 5 ∧ i + k ≤ n ∧ acc < 2 ^ (7 * k) ∧ Lib.uvarintDec (l.drop i) = Lib.uvarintFrom k acc (l.drop (i + k)))
    (fun _ _ vi => 5 - (intOf vi).toNat)
  case atStart => exact ⟨0, 0, rfl, rfl, rfl, by omega, by omega, by decide, rfl⟩
  case round =>
    obtain ⟨k, acc, rfl, rfl, rfl, hk5, hkn, hacc, hdec⟩ := hrel
    by_cases hk : i + k < n
    · have hc := hcell (i + k) (by omega)
      have hdrop : l.drop (i + k) = l[i + k]'(by omega) :: l.drop (i + k + 1) := List.drop_eq_getElem_cons (by omega)
      rw [hdrop] at hdec
      generalize l[i + k]'(by omega) = b at hc hdec
      have hb256 : b.toNat < 256 := b.toNat_lt
      clear hcell hdrop
      have hks : k = 0 ∨ k = 1 ∨ k = 2 ∨ k = 3 ∨ k = 4 ∨ k = 5 := by omega
      rcases hks with rfl | rfl | rfl | rfl | rfl | rfl
      · have hc0 : w.cell? ⟨g, o + i, none⟩ = some (.int .u8 b.toNat) := hc
        clear hc
        obtain rfl : acc = 0 := by simpa using hacc
        have hd2 : Lib.uvarintDec (l.drop i) = Lib.uvarintFrom 0 0 (b :: l.drop (i + 0 + 1)) := hdec
        have HD : Hid (Lib.uvarintDec (l.drop i) = Lib.uvarintFrom 0 0 (b :: l.drop (i + 0 + 1))) := hd2
        clear hdec hd2
        have hv : bits .or .u64 0 (IntKind.u64.wrap (IntKind.u64.wrap (bits .and .u8 (b.toNat : Int) 127))) = ((b.toNat % 128 : Nat) : Int) := by
          simp (disch := omega) only [u8_and127, u64_wrap_id, u64_orv0]
          omega
        by_cases hb : b.toNat < 128
        · have hF : Lib.uvarintFrom 0 0 (b :: l.drop (i + 0 + 1)) = (b.toNat % 128, ((1 : Nat) : Int)) := by
            have e : b.toNat % 128 = b.toNat := Nat.mod_eq_of_lt hb
            simp [Lib.uvarintFrom, hb, e]
          have HF : Hid (Lib.uvarintFrom 0 0 (b :: l.drop (i + 0 + 1)) = (b.toNat % 128, ((1 : Nat) : Int))) := hF
          clear hF
          go_wp2
          go_ret3
          exact ⟨res_yes (b.toNat % 128) 1 (HD.out.trans HF.out) (by omega) (by omega), rfl⟩
        · have hF : Lib.uvarintFrom 0 0 (b :: l.drop (i + 0 + 1)) = Lib.uvarintFrom 1 (b.toNat % 128) (l.drop (i + 0 + 1)) := by simp [Lib.uvarintFrom, hb]
          have HF : Hid (Lib.uvarintFrom 0 0 (b :: l.drop (i + 0 + 1)) = Lib.uvarintFrom 1 (b.toNat % 128) (l.drop (i + 0 + 1))) := hF
          clear hF
          have HP : Hid (b.toNat % 128 < 2 ^ (7 * 1)) := by
            have e2 : (2 : Nat) ^ (7 * 1) = 128 := by decide
            show _ < _
            rw [e2]; omega
          go_wp2
          go_round
          case rel => exact ⟨1, b.toNat % 128, rfl, rfl, by go_num, by omega, by omega, HP.out, HD.out.trans HF.out⟩
          case measure => simp [intOf]
      · have hc0 : w.cell? ⟨g, o + (i + 1), none⟩ = some (.int .u8 b.toNat) := hc
        clear hc
        have hacc' : acc < 128 := by simpa using hacc
        have hd2 : Lib.uvarintDec (l.drop i) = Lib.uvarintFrom 1 acc (b :: l.drop (i + 1 + 1)) := hdec
        have HD : Hid (Lib.uvarintDec (l.drop i) = Lib.uvarintFrom 1 acc (b :: l.drop (i + 1 + 1))) := hd2
        clear hdec hd2
        have hv : bits .or .u64 (acc : Int) (IntKind.u64.wrap (IntKind.u64.wrap (bits .and .u8 (b.toNat : Int) 127) * 128)) = ((acc + b.toNat % 128 * 128 : Nat) : Int) := by
          simp (disch := omega) only [u8_and127, u64_wrap_id, u64_orv7]
          omega
        by_cases hb : b.toNat < 128
        · have hF : Lib.uvarintFrom 1 acc (b :: l.drop (i + 1 + 1)) = (acc + b.toNat % 128 * 128, ((2 : Nat) : Int)) := by
            have e : b.toNat % 128 = b.toNat := Nat.mod_eq_of_lt hb
            simp [Lib.uvarintFrom, hb, e]
          have HF : Hid (Lib.uvarintFrom 1 acc (b :: l.drop (i + 1 + 1)) = (acc + b.toNat % 128 * 128, ((2 : Nat) : Int))) := hF
          clear hF
          go_wp2
          go_ret3
          exact ⟨res_yes (acc + b.toNat % 128 * 128) 2 (HD.out.trans HF.out) (by omega) (by omega), rfl⟩
        · have hF : Lib.uvarintFrom 1 acc (b :: l.drop (i + 1 + 1)) = Lib.uvarintFrom 2 (acc + b.toNat % 128 * 128) (l.drop (i + 1 + 1)) := by simp [Lib.uvarintFrom, hb]
          have HF : Hid (Lib.uvarintFrom 1 acc (b :: l.drop (i + 1 + 1)) = Lib.uvarintFrom 2 (acc + b.toNat % 128 * 128) (l.drop (i + 1 + 1))) := hF
          clear hF
          have HP : Hid (acc + b.toNat % 128 * 128 < 2 ^ (7 * 2)) := by
            have e2 : (2 : Nat) ^ (7 * 2) = 16384 := by decide
            show _ < _
            rw [e2]; omega
          go_wp2
          go_round
          case rel => exact ⟨2, acc + b.toNat % 128 * 128, rfl, rfl, by go_num, by omega, by omega, HP.out, HD.out.trans HF.out⟩
          case measure => simp [intOf]
      · have hc0 : w.cell? ⟨g, o + (i + 2), none⟩ = some (.int .u8 b.toNat) := hc
        clear hc
        have hacc' : acc < 16384 := by simpa using hacc
        have hd2 : Lib.uvarintDec (l.drop i) = Lib.uvarintFrom 2 acc (b :: l.drop (i + 2 + 1)) := hdec
        have HD : Hid (Lib.uvarintDec (l.drop i) = Lib.uvarintFrom 2 acc (b :: l.drop (i + 2 + 1))) := hd2
        clear hdec hd2
        have hv : bits .or .u64 (acc : Int) (IntKind.u64.wrap (IntKind.u64.wrap (bits .and .u8 (b.toNat : Int) 127) * 16384)) = ((acc + b.toNat % 128 * 16384 : Nat) : Int) := by
          simp (disch := omega) only [u8_and127, u64_wrap_id, u64_orv14]
          omega
        by_cases hb : b.toNat < 128
        · have hF : Lib.uvarintFrom 2 acc (b :: l.drop (i + 2 + 1)) = (acc + b.toNat % 128 * 16384, ((3 : Nat) : Int)) := by
            have e : b.toNat % 128 = b.toNat := Nat.mod_eq_of_lt hb
            simp [Lib.uvarintFrom, hb, e]
          have HF : Hid (Lib.uvarintFrom 2 acc (b :: l.drop (i + 2 + 1)) = (acc + b.toNat % 128 * 16384, ((3 : Nat) : Int))) := hF
          clear hF
          go_wp2
          go_ret3
          exact ⟨res_yes (acc + b.toNat % 128 * 16384) 3 (HD.out.trans HF.out) (by omega) (by omega), rfl⟩
        · have hF : Lib.uvarintFrom 2 acc (b :: l.drop (i + 2 + 1)) = Lib.uvarintFrom 3 (acc + b.toNat % 128 * 16384) (l.drop (i + 2 + 1)) := by simp [Lib.uvarintFrom, hb]
          have HF : Hid (Lib.uvarintFrom 2 acc (b :: l.drop (i + 2 + 1)) = Lib.uvarintFrom 3 (acc + b.toNat % 128 * 16384) (l.drop (i + 2 + 1))) := hF
          clear hF
          have HP : Hid (acc + b.toNat % 128 * 16384 < 2 ^ (7 * 3)) := by
            have e2 : (2 : Nat) ^ (7 * 3) = 2097152 := by decide
            show _ < _
            rw [e2]; omega
          go_wp2
          go_round
          case rel => exact ⟨3, acc + b.toNat % 128 * 16384, rfl, rfl, by go_num, by omega, by omega, HP.out, HD.out.trans HF.out⟩
          case measure => simp [intOf]
      · have hc0 : w.cell? ⟨g, o + (i + 3), none⟩ = some (.int .u8 b.toNat) := hc
        clear hc
        have hacc' : acc < 2097152 := by simpa using hacc
        have hd2 : Lib.uvarintDec (l.drop i) = Lib.uvarintFrom 3 acc (b :: l.drop (i + 3 + 1)) := hdec
        have HD : Hid (Lib.uvarintDec (l.drop i) = Lib.uvarintFrom 3 acc (b :: l.drop (i + 3 + 1))) := hd2
        clear hdec hd2
        have hv : bits .or .u64 (acc : Int) (IntKind.u64.wrap (IntKind.u64.wrap (bits .and .u8 (b.toNat : Int) 127) * 2097152)) = ((acc + b.toNat % 128 * 2097152 : Nat) : Int) := by
          simp (disch := omega) only [u8_and127, u64_wrap_id, u64_orv21]
          omega
        by_cases hb : b.toNat < 128
        · have hF : Lib.uvarintFrom 3 acc (b :: l.drop (i + 3 + 1)) = (acc + b.toNat % 128 * 2097152, ((4 : Nat) : Int)) := by
            have e : b.toNat % 128 = b.toNat := Nat.mod_eq_of_lt hb
            simp [Lib.uvarintFrom, hb, e]
          have HF : Hid (Lib.uvarintFrom 3 acc (b :: l.drop (i + 3 + 1)) = (acc + b.toNat % 128 * 2097152, ((4 : Nat) : Int))) := hF
          clear hF
          go_wp2
          go_ret3
          exact ⟨res_yes (acc + b.toNat % 128 * 2097152) 4 (HD.out.trans HF.out) (by omega) (by omega), rfl⟩
        · have hF : Lib.uvarintFrom 3 acc (b :: l.drop (i + 3 + 1)) = Lib.uvarintFrom 4 (acc + b.toNat % 128 * 2097152) (l.drop (i + 3 + 1)) := by simp [Lib.uvarintFrom, hb]
          have HF : Hid (Lib.uvarintFrom 3 acc (b :: l.drop (i + 3 + 1)) = Lib.uvarintFrom 4 (acc + b.toNat % 128 * 2097152) (l.drop (i + 3 + 1))) := hF
          clear hF
          have HP : Hid (acc + b.toNat % 128 * 2097152 < 2 ^ (7 * 4)) := by
            have e2 : (2 : Nat) ^ (7 * 4) = 268435456 := by decide
            show _ < _
            rw [e2]; omega
          go_wp2
          go_round
          case rel => exact ⟨4, acc + b.toNat % 128 * 2097152, rfl, rfl, by go_num, by omega, by omega, HP.out, HD.out.trans HF.out⟩
          case measure => simp [intOf]
      · have hc0 : w.cell? ⟨g, o + (i + 4), none⟩ = some (.int .u8 b.toNat) := hc
        clear hc
        have hacc' : acc < 268435456 := by simpa using hacc
        have hd2 : Lib.uvarintDec (l.drop i) = Lib.uvarintFrom 4 acc (b :: l.drop (i + 4 + 1)) := hdec
        have HD : Hid (Lib.uvarintDec (l.drop i) = Lib.uvarintFrom 4 acc (b :: l.drop (i + 4 + 1))) := hd2
        clear hdec hd2
        have hv : bits .or .u64 (acc : Int) (IntKind.u64.wrap (IntKind.u64.wrap (bits .and .u8 (b.toNat : Int) 127) * 268435456)) = ((acc + b.toNat % 128 * 268435456 : Nat) : Int) := by
          simp (disch := omega) only [u8_and127, u64_wrap_id, u64_orv28]
          omega
        by_cases hb : b.toNat < 128
        · have hF : Lib.uvarintFrom 4 acc (b :: l.drop (i + 4 + 1)) = (acc + b.toNat % 128 * 268435456, ((5 : Nat) : Int)) := by
            have e : b.toNat % 128 = b.toNat := Nat.mod_eq_of_lt hb
            simp [Lib.uvarintFrom, hb, e]
          have HF : Hid (Lib.uvarintFrom 4 acc (b :: l.drop (i + 4 + 1)) = (acc + b.toNat % 128 * 268435456, ((5 : Nat) : Int))) := hF
          clear hF
          go_wp2
          go_ret3
          exact ⟨res_yes (acc + b.toNat % 128 * 268435456) 5 (HD.out.trans HF.out) (by omega) (by omega), rfl⟩
        · have hF : Lib.uvarintFrom 4 acc (b :: l.drop (i + 4 + 1)) = Lib.uvarintFrom 5 (acc + b.toNat % 128 * 268435456) (l.drop (i + 4 + 1)) := by simp [Lib.uvarintFrom, hb]
          have HF : Hid (Lib.uvarintFrom 4 acc (b :: l.drop (i + 4 + 1)) = Lib.uvarintFrom 5 (acc + b.toNat % 128 * 268435456) (l.drop (i + 4 + 1))) := hF
          clear hF
          have HP : Hid (acc + b.toNat % 128 * 268435456 < 2 ^ (7 * 5)) := by
            have e2 : (2 : Nat) ^ (7 * 5) = 34359738368 := by decide
            show _ < _
            rw [e2]; omega
          go_wp2
          go_round
          case rel => exact ⟨5, acc + b.toNat % 128 * 268435456, rfl, rfl, by go_num, by omega, by omega, HP.out, HD.out.trans HF.out⟩
          case measure => simp [intOf]
      · have HD : Hid ((Lib.uvarintDec (l.drop i)).2 ≤ 0 ∨ 6 ≤ (Lib.uvarintDec (l.drop i)).2) := by
          have := (from_size (b :: l.drop (i + 5 + 1)) 5 acc).1
          rw [hdec]; show _ ∨ _; omega
        clear hdec
        go_wp2
        go_ret3
        exact ⟨res_no HD.out, rfl⟩
    · have hin : i + k = n := by omega
      have HD : Hid ((Lib.uvarintDec (l.drop i)).2 ≤ 0 ∨ 6 ≤ (Lib.uvarintDec (l.drop i)).2) := by
        show _ ∨ _; rw [hdec, List.drop_eq_nil_of_le (by omega)]; exact .inl (Int.le_refl 0)
      clear hdec hcell hin
      by_cases hk4 : k < 5
      · go_wp2
        go_ret3
        exact ⟨res_no HD.out, rfl⟩
      · go_wp2
        go_ret3
        exact ⟨res_no HD.out, rfl⟩

end Go.Proofs.Qxb6605944a
