import Derived.Test.Qxb6608992aRows
import Derived.Test.Qxb6608992aPlain
import Derived.Test.Qxb6608992aShelf
import Derived.WalkKit
import Derived.WalkSpells
/-
  zzAllDigits (9), zzIsNumber (8), zzNumericSign (10), cmp.Or (21), compareNumbers (18), ZZcompareNumbers (11).
-/
namespace Go.Proofs.Qxb6608992a
open Go.RowKit
set_option linter.unusedVariables false

theorem hid {p : Prop} (h : p) : Hid p := h
theorem ret_bool {a b : Bool} (h : a = b) : Ending.returned (.bool a) = .returned (.bool b) := by rw [h]
theorem ret_int {k : IntKind} {a b : Int} (h : a = b) : Ending.returned (.int k a) = .returned (.int k b) := by rw [h]

theorem drop_byte (s : ByteArray) (k : Nat) (h : k < s.size) : s.data.toList.drop k = s[k] :: s.data.toList.drop (k + 1) := by
  rw [List.drop_eq_getElem_cons (by simpa using h)]; rfl

set_option maxHeartbeats 1000000 in
theorem digits_any (s : ByteArray) (w : World) (hs : s.size ≤ maxLen) :
    Calls Try.prog 9 #[.string s] w fun e w' => e = .returned (.bool (allD s.data.toList)) ∧ w' = w := by
  unfold maxLen at hs
  go_enter Try.func9, Try.ntmps9
  go_wp2
  go_loop [3] (fun vi => ∃ k : Nat, k ≤ s.size ∧ vi = .int .i64 k ∧ allD s.data.toList = allD (s.data.toList.drop k)) (fun vi => s.size - (intOf vi).toNat)
  case atStart => exact ⟨0, Nat.zero_le _, rfl, rfl⟩
  case round =>
    obtain ⟨k, hk, rfl, hall⟩ := hrel
    by_cases hlt : k < s.size
    · rw [drop_byte s k hlt] at hall
      have hb : s[k].toNat < 256 := s[k].toNat_lt
      by_cases h1 : s[k].toNat < 48
      · have HA : Hid (allD s.data.toList = false) := by
          show _ = _
          rw [hall]; simp [allD, isD]; omega
        clear hall
        go_wp2
        go_ret
        exact ⟨ret_bool HA.out.symm, rfl⟩
      · by_cases h2 : 57 < s[k].toNat
        · have HA : Hid (allD s.data.toList = false) := by
            show _ = _
            rw [hall]; simp [allD, isD]; omega
          clear hall
          go_wp2
          go_ret
          exact ⟨ret_bool HA.out.symm, rfl⟩
        · have HA : Hid (allD s.data.toList = allD (s.data.toList.drop (k + 1))) := by
            show _ = _
            rw [hall]
            have : isD s[k] = true := decide_eq_true (by omega)
            simp [allD, this]
          clear hall
          go_wp2
          go_round
          case rel => exact ⟨k + 1, by omega, by go_num, HA.out⟩
          case measure => simp [intOf]; omega
    · have HA : Hid (allD s.data.toList = true) := by
        show _ = _
        rw [hall, List.drop_eq_nil_of_le (by simp; omega)]; rfl
      clear hall
      go_wp2
      go_ret
      exact ⟨ret_bool HA.out.symm, rfl⟩

set_option maxHeartbeats 1000000 in
theorem isnum_any (s : ByteArray) (w : World) (hs : s.size ≤ maxLen) :
    Calls Try.prog 8 #[.string s] w fun e w' => e = .returned (.bool (isN s.data.toList)) ∧ w' = w := by
  have C9 := hid (digits_any s w hs)
  unfold maxLen at hs
  by_cases h0 : s.size = 0
  · have hb : ((s.size : Int) == 0) = true := by simp [h0]
    have HA : Hid (isN s.data.toList = false) := by
      show _ = _
      have : s.data.toList = [] := List.eq_nil_of_length_eq_zero (by simpa using h0)
      rw [this]; rfl
    go_enter Try.func8, Try.ntmps8
    go_wp2
    go_ret
    exact ⟨ret_bool HA.out.symm, rfl⟩
  · have h0' : 0 < s.size := by omega
    have hb : ((s.size : Int) == 0) = false := by simpa using h0
    have hlist : s.data.toList = s[0] :: s.data.toList.drop 1 := by
      have := drop_byte s 0 (by omega)
      simpa using this
    cases hd : allD s.data.toList with
    | false =>
      rw [hd] at C9
      have HA : Hid (isN s.data.toList = false) := by
        show _ = _
        unfold isN; rw [hd]; simp
      clear hlist hd
      go_enter Try.func8, Try.ntmps8
      go_wp2_with fail
      refine C9.out.mono ?_
      rintro e wa ⟨rfl, hwa⟩
      rw [hwa]; clear hwa wa
      go_wp2
      go_ret
      exact ⟨ret_bool HA.out.symm, rfl⟩
    | true =>
      rw [hd] at C9
      have HI : Hid (isN s.data.toList = (decide (s.size = 1) || decide (s[0].toNat ≠ 48))) := by
        show _ = _
        have hlen : s.data.toList.length = s.size := by simp
        unfold isN
        rw [hd, hlen]
        have e1 : s.data.toList.isEmpty = false := by rw [hlist]; rfl
        have e2 : s.data.toList.head? = some s[0] := by rw [hlist]; rfl
        rw [e1, e2]
        have e3 : (some s[0] != some (48 : UInt8)) = decide (s[0].toNat ≠ 48) := by
          rw [Bool.eq_iff_iff]
          simp only [bne_iff_ne, ne_eq, Option.some.injEq, decide_eq_true_eq]
          constructor
          · intro h e; exact h (UInt8.toNat_inj.1 (by simpa using e))
          · intro h e; exact h (by rw [e]; rfl)
        rw [e3]
        have e4 : (s.size == 1) = decide (s.size = 1) := by rw [Bool.eq_iff_iff]; simp
        simp [e4]
      clear hlist hd
      by_cases h1 : s.size = 1
      · have hb1 : ((s.size : Int) == 1) = true := by simp [h1]
        have HA : Hid (isN s.data.toList = true) := by
          show _ = _
          rw [HI.out, h1]; simp
        go_enter Try.func8, Try.ntmps8
        go_wp2_with fail
        refine C9.out.mono ?_
        rintro e wa ⟨rfl, hwa⟩
        rw [hwa]; clear hwa wa
        go_wp2
        go_ret
        exact ⟨ret_bool HA.out.symm, rfl⟩
      · have hb1 : ((s.size : Int) == 1) = false := by simp; omega
        go_enter Try.func8, Try.ntmps8
        go_wp2_with fail
        refine C9.out.mono ?_
        rintro e wa ⟨rfl, hwa⟩
        rw [hwa]; clear hwa wa
        go_wp2
        go_ret
        refine ⟨ret_bool ?_, rfl⟩
        rw [HI.out, Bool.eq_iff_iff]
        simp [h1]
        omega

theorem pad_len (n : Nat) (a : List UInt8) (h : a.length ≤ n) : (pad n a).length = n := by simp [pad]; omega
theorem pad_zero (n i : Nat) (a : List UInt8) (h : i < n - a.length) : (pad n a).drop i = 48 :: (pad n a).drop (i + 1) := by
  have hl : i < (pad n a).length := by simp [pad]; omega
  have e : (pad n a)[i] = 48 := by simp [pad, h]
  rw [List.drop_eq_getElem_cons hl, e]
theorem pad_digit (n j : Nat) (s : ByteArray) (h : j < s.size) (hn : s.size ≤ n) : (pad n s.data.toList).drop (n - s.size + j) = s[j] :: (pad n s.data.toList).drop (n - s.size + j + 1) := by
  have hlen : s.data.toList.length = s.size := by simp
  have e : (pad n s.data.toList).drop (n - s.size + j) = s.data.toList.drop j := by
    unfold pad
    rw [List.drop_append, hlen, List.length_replicate, List.drop_eq_nil_of_le (by simp), List.nil_append]
    congr 1; omega
  have e' : (pad n s.data.toList).drop (n - s.size + j + 1) = s.data.toList.drop (j + 1) := by
    unfold pad
    rw [List.drop_append, hlen, List.length_replicate, List.drop_eq_nil_of_le (by simp; omega), List.nil_append]
    congr 1; omega
  rw [e, e', drop_byte s j h]

set_option maxHeartbeats 1000000 in
theorem sign_any (a b : ByteArray) (w : World) (ha : a.size ≤ 1048576) (hb : b.size ≤ 1048576) :
    Calls Try.prog 10 #[.string a, .string b] w fun e w' => e = .returned (.int .i64 (sgn a.data.toList b.data.toList)) ∧ w' = w := by
  have la : a.data.toList.length = a.size := by simp
  have lb : b.data.toList.length = b.size := by simp
  obtain ⟨V, hV⟩ : ∃ V, sgn a.data.toList b.data.toList = V := ⟨_, rfl⟩
  rw [hV]
  unfold sgn at hV
  rw [la, lb] at hV
  by_cases hlt : a.size < b.size
  · have hmax : max a.size b.size = b.size := by omega
    rw [hmax] at hV
    obtain ⟨P, hP⟩ : ∃ P, b.size - a.size = P := ⟨_, rfl⟩
    have hP1 : (b.size : Int) - (a.size : Int) = (P : Int) := by omega
    have hP2 : P + a.size ≤ b.size := by omega
    have hP3 : b.size ≤ P + a.size := by omega
    have HV := hid hV
    have HP := hid hP
    clear hV hP la lb hmax
    go_enter Try.func10, Try.ntmps10
    go_wp2
    go_loop [8] (fun vi => ∃ i : Nat, i ≤ b.size ∧ vi = .int .i64 i ∧ Lib.compareBytes ((pad b.size a.data.toList).drop i) ((pad b.size b.data.toList).drop i) = V) (fun vi => b.size - (intOf vi).toNat)
    case atStart => exact ⟨0, Nat.zero_le _, rfl, HV.out⟩
    case round =>
      obtain ⟨i, hi, rfl, hcmp⟩ := hrel
      by_cases hib : i < b.size
      · have eb := pad_digit b.size i b hib (Nat.le_refl _)
        rw [Nat.sub_self, Nat.zero_add] at eb
        rw [eb] at hcmp
        have b256 : b[i].toNat < 256 := b[i].toNat_lt
        by_cases hiP : i < P
        · have ea := pad_zero b.size i a.data.toList (by simp; omega)
          rw [ea] at hcmp
          simp only [Lib.compareBytes, lt_iff] at hcmp
          clear ea eb
          by_cases c1 : 48 < b[i].toNat
          · rw [if_pos (by simpa using c1)] at hcmp
            subst hcmp
            go_wp2
            go_ret
            exact ⟨rfl, rfl⟩
          · rw [if_neg (by simpa using c1)] at hcmp
            by_cases c2 : b[i].toNat < 48
            · rw [if_pos (by simpa using c2)] at hcmp
              subst hcmp
              go_wp2
              go_ret
              exact ⟨rfl, rfl⟩
            · rw [if_neg (by simpa using c2)] at hcmp
              have HC := hid hcmp
              clear hcmp
              go_wp2
              go_round
              case rel => exact ⟨i + 1, by omega, by go_num, HC.out⟩
              case measure => simp [intOf]; omega
        · obtain ⟨j, rfl⟩ : ∃ j, i = P + j := ⟨i - P, by omega⟩
          have hja : j < a.size := by omega
          have ea := pad_digit b.size j a hja (by omega)
          rw [HP.out] at ea
          rw [ea] at hcmp
          have a256 : a[j].toNat < 256 := a[j].toNat_lt
          simp only [Lib.compareBytes, lt_iff] at hcmp
          clear ea eb
          have hsub : ((P + j : Nat) : Int) - (P : Int) = (j : Int) := by omega
          by_cases c1 : a[j].toNat < b[P + j].toNat
          · rw [if_pos c1] at hcmp
            subst hcmp
            go_wp2
            go_ret
            exact ⟨rfl, rfl⟩
          · rw [if_neg c1] at hcmp
            by_cases c2 : b[P + j].toNat < a[j].toNat
            · rw [if_pos c2] at hcmp
              subst hcmp
              go_wp2
              go_ret
              exact ⟨rfl, rfl⟩
            · rw [if_neg c2] at hcmp
              have HC := hid hcmp
              clear hcmp
              go_wp2
              go_round
              case rel => exact ⟨P + j + 1, by omega, by go_num, HC.out⟩
              case measure => simp [intOf]; omega
      · rw [List.drop_eq_nil_of_le (by rw [pad_len _ _ (by simp; omega)]; omega), List.drop_eq_nil_of_le (by rw [pad_len _ _ (by simp)]; omega)] at hcmp
        simp only [Lib.compareBytes] at hcmp
        subst hcmp
        go_wp2
        go_ret
        exact ⟨rfl, rfl⟩
  · have hmax : max a.size b.size = a.size := by omega
    rw [hmax] at hV
    obtain ⟨P, hP⟩ : ∃ P, a.size - b.size = P := ⟨_, rfl⟩
    have hP1 : (a.size : Int) - (b.size : Int) = (P : Int) := by omega
    have hP2 : P + b.size ≤ a.size := by omega
    have hP3 : a.size ≤ P + b.size := by omega
    have HV := hid hV
    have HP := hid hP
    clear hV hP la lb hmax
    go_enter Try.func10, Try.ntmps10
    go_wp2
    go_loop [8] (fun vi => ∃ i : Nat, i ≤ a.size ∧ vi = .int .i64 i ∧ Lib.compareBytes ((pad a.size a.data.toList).drop i) ((pad a.size b.data.toList).drop i) = V) (fun vi => a.size - (intOf vi).toNat)
    case atStart => exact ⟨0, Nat.zero_le _, rfl, HV.out⟩
    case round =>
      obtain ⟨i, hi, rfl, hcmp⟩ := hrel
      by_cases hib : i < a.size
      · have ea := pad_digit a.size i a hib (Nat.le_refl _)
        rw [Nat.sub_self, Nat.zero_add] at ea
        rw [ea] at hcmp
        have a256 : a[i].toNat < 256 := a[i].toNat_lt
        by_cases hiP : i < P
        · have eb := pad_zero a.size i b.data.toList (by simp; omega)
          rw [eb] at hcmp
          simp only [Lib.compareBytes, lt_iff] at hcmp
          clear ea eb
          by_cases c1 : a[i].toNat < 48
          · rw [if_pos (by simpa using c1)] at hcmp
            subst hcmp
            go_wp2
            go_ret
            exact ⟨rfl, rfl⟩
          · rw [if_neg (by simpa using c1)] at hcmp
            by_cases c2 : 48 < a[i].toNat
            · rw [if_pos (by simpa using c2)] at hcmp
              subst hcmp
              go_wp2
              go_ret
              exact ⟨rfl, rfl⟩
            · rw [if_neg (by simpa using c2)] at hcmp
              have HC := hid hcmp
              clear hcmp
              go_wp2
              go_round
              case rel => exact ⟨i + 1, by omega, by go_num, HC.out⟩
              case measure => simp [intOf]; omega
        · obtain ⟨j, rfl⟩ : ∃ j, i = P + j := ⟨i - P, by omega⟩
          have hjb : j < b.size := by omega
          have eb := pad_digit a.size j b hjb (by omega)
          rw [HP.out] at eb
          rw [eb] at hcmp
          have b256 : b[j].toNat < 256 := b[j].toNat_lt
          simp only [Lib.compareBytes, lt_iff] at hcmp
          clear ea eb
          have hsub : ((P + j : Nat) : Int) - (P : Int) = (j : Int) := by omega
          by_cases c1 : a[P + j].toNat < b[j].toNat
          · rw [if_pos c1] at hcmp
            subst hcmp
            go_wp2
            go_ret
            exact ⟨rfl, rfl⟩
          · rw [if_neg c1] at hcmp
            by_cases c2 : b[j].toNat < a[P + j].toNat
            · rw [if_pos c2] at hcmp
              subst hcmp
              go_wp2
              go_ret
              exact ⟨rfl, rfl⟩
            · rw [if_neg c2] at hcmp
              have HC := hid hcmp
              clear hcmp
              go_wp2
              go_round
              case rel => exact ⟨P + j + 1, by omega, by go_num, HC.out⟩
              case measure => simp [intOf]; omega
      · rw [List.drop_eq_nil_of_le (by rw [pad_len _ _ (by simp)]; omega), List.drop_eq_nil_of_le (by rw [pad_len _ _ (by simp; omega)]; omega)] at hcmp
        simp only [Lib.compareBytes] at hcmp
        subst hcmp
        go_wp2
        go_ret
        exact ⟨rfl, rfl⟩

set_option maxHeartbeats 1000000 in
/-- cmp.Or at two ints. -/
theorem or_two (x y : Int) (g c : Nat) (w : World) (h0 : w.cell? ⟨g, 0, none⟩ = some (.int .i64 x)) (h1 : w.cell? ⟨g, 1, none⟩ = some (.int .i64 y)) :
    Calls Try.prog 21 #[.slice (some ⟨g, 0, none⟩) 2 c] w fun e w' => e = .returned (.int .i64 (if x = 0 then y else x)) ∧ w' = w := by
  by_cases hx : x = 0
  · subst hx
    by_cases hy : y = 0
    · subst hy
      go_enter Try.func21, Try.ntmps21
      go_wp2
      refine wp_loop_rounds 3 ?_
      rw [rounds_succ]
      go_wp2
      rw [rounds_succ]
      go_wp2
      rw [rounds_succ]
      go_wp2
      go_ret
      exact ⟨rfl, rfl⟩
    · have hb : (y != 0) = true := by simpa using hy
      go_enter Try.func21, Try.ntmps21
      go_wp2
      refine wp_loop_rounds 2 ?_
      rw [rounds_succ]
      go_wp2
      rw [rounds_succ]
      go_wp2
      go_ret
      exact ⟨rfl, rfl⟩
  · have hb : (x != 0) = true := by simpa using hx
    go_enter Try.func21, Try.ntmps21
    go_wp2
    refine wp_loop_rounds 1 ?_
    rw [rounds_succ]
    go_wp2
    go_ret
    exact ⟨rfl, rfl⟩

set_option maxHeartbeats 1000000 in
theorem cmp18 (a b : ByteArray) (w : World) :
    Calls Try.prog 18 #[.string a, .string b] w fun e w' => e = .returned (.int .i64 (cn a.data.toList b.data.toList)) ∧ Below w.heap.size w w' := by
  have C22 := hid (Try.cmp_Compare_int (a.size : Int) (b.size : Int) w)
  have C23 := hid (Try.strings_Compare a b w)
  have HC : Hid (cn a.data.toList b.data.toList = if Lib.compareInt (a.size : Int) (b.size : Int) = 0 then Lib.compareBytes a.data.toList b.data.toList else Lib.compareInt (a.size : Int) (b.size : Int)) := by
    show _ = _
    unfold cn
    simp
  generalize Lib.compareInt (a.size : Int) (b.size : Int) = x at *
  generalize Lib.compareBytes a.data.toList b.data.toList = y at *
  generalize cn a.data.toList b.data.toList = z at *
  go_enter Try.func18, Try.ntmps18
  go_wp2_with fail
  refine C22.out.mono ?_
  rintro e wa ⟨rfl, hwa⟩
  rw [hwa]; clear hwa wa
  go_wp2_with fail
  refine C23.out.mono ?_
  rintro e wa ⟨rfl, hwa⟩
  rw [hwa]; clear hwa wa
  go_wp2_with fail
  refine (or_two x y w.heap.size 2 _ (by simp) (by simp)).mono ?_
  rintro e wa ⟨rfl, hwa⟩
  rw [hwa]; clear hwa wa
  rw [← HC.out]
  go_wp2
  go_ret
  exact ⟨rfl, (Below.refl _ _).alloc (Nat.le_refl _) _⟩

set_option maxHeartbeats 1000000 in
theorem cmp11 (a b : ByteArray) (w : World) :
    Calls Try.prog 11 #[.string a, .string b] w fun e w' => e = .returned (.int .i64 (cn a.data.toList b.data.toList)) ∧ Below w.heap.size w w' := by
  have C := hid (cmp18 a b w)
  generalize cn a.data.toList b.data.toList = z at *
  go_enter Try.func11, Try.ntmps11
  go_wp2_with fail
  refine C.out.mono ?_
  rintro e w1 ⟨rfl, hb⟩
  have HB := hid hb
  clear hb
  go_wp2
  go_ret
  exact ⟨rfl, HB.out⟩


end Go.Proofs.Qxb6608992a
