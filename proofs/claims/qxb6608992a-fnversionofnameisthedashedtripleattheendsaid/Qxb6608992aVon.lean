import Derived.Test.Qxb6608992aMv
import Derived.Deep.RegionHeld3
/-
  versionOfName (20): it is 'von' of the bytes.
-/
namespace Go.Proofs.Qxb6608992a
open Go.RowKit
set_option linter.unusedVariables false

def by' (l : List UInt8) : ByteArray := ⟨l.toArray⟩
theorem by_list (l : List UInt8) : (by' l).data.toList = l := by simp [by']
theorem by_size (l : List UInt8) : (by' l).size = l.length := by simp [by', ByteArray.size]
theorem by_of (s : ByteArray) : s = by' s.data.toList := by cases s; simp [by']

theorem byte_at (l : List UInt8) (j : Nat) (h : j < l.length) : (by' l).data[j]! = l[j] := by
  simp [by', h]

theorem last_none {l : List UInt8} (h : sp l = none) : Lib.lastIndexByte (by' l) 45 = -1 := by
  rcases Lib.lastIdx_spec (by' l) 45 (by' l).size with ⟨h1, _⟩ | ⟨i, hi, h1, hc, hj⟩
  · exact h1
  · exfalso
    rw [by_size] at hi
    rw [byte_at l i hi] at hc
    have e45 : l[i] = 45 := UInt8.toNat_inj.1 (by show _ = 45; omega)
    have hs : l = l.take i ++ 45 :: l.drop (i + 1) := by
      rw [← e45, List.getElem_cons_drop, List.take_append_drop]
    have hn : 45 ∉ l.drop (i + 1) := by
      intro hm
      obtain ⟨k, hk, hk2⟩ := List.getElem_of_mem hm
      rw [List.getElem_drop] at hk2
      rw [List.length_drop] at hk
      have := hj (i + 1 + k) (by omega) (by rw [by_size]; omega)
      rw [byte_at l _ (by omega), hk2] at this
      exact this rfl
    rw [hs, sp_some _ _ hn] at h
    cases h

theorem last_some {l a b : List UInt8} (h : sp l = some (a, b)) : Lib.lastIndexByte (by' l) 45 = a.length := by
  obtain ⟨hl, hb⟩ := sp_out h
  subst hl
  have key : ∀ k (hk : k < (a ++ 45 :: b).length), (a ++ 45 :: b)[k] = 45 → k ≤ a.length := by
    intro k hk e
    by_cases hc : k ≤ a.length
    · exact hc
    · exfalso
      apply hb
      rw [List.getElem_append_right (by omega)] at e
      have : (45 :: b)[k - a.length]'(by simp at hk ⊢; omega) = b[k - a.length - 1]'(by simp at hk ⊢; omega) := by
        rw [List.getElem_cons]; split
        · omega
        · rfl
      rw [this] at e
      rw [← e]; exact List.getElem_mem _
  rcases Lib.lastIdx_spec (by' (a ++ 45 :: b)) 45 (by' (a ++ 45 :: b)).size with ⟨h1, h2⟩ | ⟨i, hi, h1, hc, hj⟩
  · exfalso
    apply h2 a.length (by rw [by_size]; simp)
    rw [byte_at _ _ (by simp)]
    simp
  · rw [by_size] at hi
    rw [byte_at _ i hi] at hc
    have e45 : (a ++ 45 :: b)[i] = 45 := UInt8.toNat_inj.1 (by show _ = 45; omega)
    have := key i hi e45
    have hge : ¬ i < a.length := by
      intro hlt
      apply hj a.length hlt (by rw [by_size]; simp)
      rw [byte_at _ _ (by simp)]
      simp
    show Lib.lastIdx _ _ _ = _
    rw [h1]; omega

theorem cut_left {l a b : List UInt8} (h : sp l = some (a, b)) : (by' l).extract 0 a.length = by' a := by
  obtain ⟨hl, hb⟩ := sp_out h
  subst hl
  exact str_extract _ _ _ a (by rw [by_list]; simp)
theorem cut_right {l a b : List UInt8} (h : sp l = some (a, b)) : (by' l).extract (a.length + 1) l.length = by' b := by
  obtain ⟨hl, hb⟩ := sp_out h
  subst hl
  exact str_extract _ _ _ b (by rw [by_list]; simp only [List.drop_append, List.length_append, List.length_cons]; rw [List.drop_eq_nil_of_le (by omega), List.nil_append, show a.length + 1 - a.length = 0 + 1 by omega, List.drop_succ_cons, List.drop_zero, List.take_of_length_le (by omega)])
theorem sp_len {l a b : List UInt8} (h : sp l = some (a, b)) : a.length + b.length + 1 = l.length := by
  obtain ⟨hl, hb⟩ := sp_out h
  subst hl
  simp; omega

theorem trim_v (l : List UInt8) : (⟨(Lib.trimPrefix (by' l).data.toList (⟨#[118]⟩ : ByteArray).data.toList).toArray⟩ : ByteArray) = by' (tv l) := by
  rw [by_list]
  unfold by' Lib.trimPrefix tv
  congr 2
  cases l with
  | nil => simp [Lib.hasPrefix]
  | cons c t =>
    by_cases hc : c = 118
    · subst hc; simp [Lib.hasPrefix]
    · simp [Lib.hasPrefix, hc]
      exact fun h => hc h.symm

theorem tv_len (l : List UInt8) : (tv l).length ≤ l.length := by
  unfold tv; split
  · simp
  · exact Nat.le_refl _
theorem chk_no0 {x y z : List UInt8} (h : isN (tv x) = false) : chk x y z = none := by simp [chk, h]
theorem chk_no1 {x y z : List UInt8} (h : isN y = false) : chk x y z = none := by simp [chk, h]
theorem chk_no2 {x y z : List UInt8} (h : isN z = false) : chk x y z = none := by simp [chk, h]
theorem chk_yes {x y z : List UInt8} (h0 : isN (tv x) = true) (h1 : isN y = true) (h2 : isN z = true) : chk x y z = some (tv x, y, z) := by simp [chk, h0, h1, h2]

theorem idx0 (w : World) (a b c : ByteArray) : (Instr.index 26 (.agg #[.string a, .string b, .string c]) (.int .i64 0)).run Try.prog w = .ok (.string a) w := by
  kernel_rfl
theorem idx1 (w : World) (a b c : ByteArray) : (Instr.index 26 (.agg #[.string a, .string b, .string c]) (.int .i64 1)).run Try.prog w = .ok (.string b) w := by
  kernel_rfl
theorem idx2 (w : World) (a b c : ByteArray) : (Instr.index 26 (.agg #[.string a, .string b, .string c]) (.int .i64 2)).run Try.prog w = .ok (.string c) w := by
  kernel_rfl

/-- A Version with those three numbers, and whether there is one. -/
def verV : Option Tri → Value
  | some (a, b, c) => .tuple #[.agg #[.string (by' a), .string (by' b), .string (by' c), .slice none 0 0, .string ⟨#[]⟩], .bool true]
  | none => .tuple #[.agg #[.string ⟨#[]⟩, .string ⟨#[]⟩, .string ⟨#[]⟩, .slice none 0 0, .string ⟨#[]⟩], .bool false]

set_option maxHeartbeats 4000000 in
set_option maxRecDepth 100000 in
theorem von_any (l : List UInt8) (w : World) (hs : l.length ≤ 1048576) :
    Calls Try.prog 20 #[.string (by' l)] w fun e w' => e = .returned (verV (von l)) ∧ Below w.heap.size w w' := by
  have CL : Hid (∀ (l : List UInt8) (w : World), l.length ≤ 1048576 → Calls Try.prog 24 #[.string (by' l), .int .u8 45] w fun e w' => e = .returned (.int .i64 (Lib.lastIndexByte (by' l) 45)) ∧ w' = w) := by
    intro l w h
    exact Try.strings_LastIndexByte (by' l) 45 (by rw [by_size]; omega) w
  have CT : Hid (∀ (l : List UInt8) (w : World), Calls Try.prog 25 #[.string (by' l), .string ⟨#[118]⟩] w fun e w' => e = .returned (.string (by' (tv l))) ∧ w' = w) := by
    intro l w
    have := Try.strings_TrimPrefix (by' l) ⟨#[118]⟩ w
    rw [trim_v] at this
    exact this
  have C26 : Hid (∀ (l : List UInt8) (w : World), l.length ≤ 1048576 → Calls Try.prog 26 #[.string (by' l)] w fun e w' => e = .returned (.bool (isN l)) ∧ w' = w) := by
    intro l w h
    have := isnum26 (by' l) w (by rw [by_size]; unfold maxLen; omega)
    rw [by_list] at this
    exact this
  go_enter Try.func20, Try.ntmps20
  go_wp2
  refine wp_loop_rounds 3 ?_
  rw [rounds_succ]
  cases h1 : sp l with
  | none =>
    go_wp2_with fail
    refine (CL.out l _ hs).mono ?_
    rintro e wa ⟨rfl, hwa⟩
    rw [hwa]; clear hwa wa
    rw [last_none h1]
    go_wp2
    exact bodyPost_ret (v := verV none) (by simp [results, Try.results20, go_sem, verV]) rfl ⟨by unfold von; rw [h1], by repeat (first | exact Below.refl _ _ | refine Below.drew ?_ | refine Below.alloc ?_ (by simp) _)⟩
  | some x =>
    obtain ⟨r1, c2⟩ := x
    have S1 := sp_len h1
    go_wp2_with fail
    refine (CL.out l _ hs).mono ?_
    rintro e wa ⟨rfl, hwa⟩
    rw [hwa]; clear hwa wa
    rw [last_some h1]
    have hz := by_size l
    have x1 := cut_left h1
    have x2 := cut_right h1
    go_wp2
    go_region
    clear x1 x2 hz
    go_wp2
    rw [rounds_succ]
    cases h2 : sp r1 with
    | none =>
      go_wp2_with fail
      refine (CL.out r1 _ (by omega)).mono ?_
      rintro e wa ⟨rfl, hwa⟩
      rw [hwa]; clear hwa wa
      rw [last_none h2]
      go_wp2
      exact bodyPost_ret (v := verV none) (by simp [results, Try.results20, go_sem, verV]) rfl ⟨by unfold von; simp only [h1, h2], by repeat (first | exact Below.refl _ _ | refine Below.drew ?_ | refine Below.alloc ?_ (by simp) _)⟩
    | some x =>
      obtain ⟨r0, c1⟩ := x
      have S2 := sp_len h2
      go_wp2_with fail
      refine (CL.out r1 _ (by omega)).mono ?_
      rintro e wa ⟨rfl, hwa⟩
      rw [hwa]; clear hwa wa
      rw [last_some h2]
      have hz := by_size r1
      have x1 := cut_left h2
      have x2 := cut_right h2
      go_wp2
      go_region
      clear x1 x2 hz
      go_wp2
      rw [rounds_succ]
      have HVON : Hid (von l = chk (lastPiece r0) c1 c2) := by
        show _ = _
        unfold von
        simp only [h1, h2]
      cases h3 : sp r0 with
      | none =>
        have e3 : lastPiece r0 = r0 := by unfold lastPiece; rw [h3]
        rw [e3] at HVON
        clear e3
        have HTV : (tv r0).length ≤ 1048576 := Nat.le_trans (tv_len _) (by omega)
        go_wp2_with fail
        refine (CL.out r0 _ (by omega)).mono ?_
        rintro e wa ⟨rfl, hwa⟩
        rw [hwa]; clear hwa wa
        rw [last_none h3]
        go_wp2_with fail
        refine (CT.out r0 _).mono ?_
        rintro e wa ⟨rfl, hwa⟩
        rw [hwa]; clear hwa wa
        go_wp2
        have ix0 := idx0
        have ix1 := idx1
        have ix2 := idx2
        refine wp_loop_rounds 4 ?_
        rw [rounds_succ]
        go_wp2_with fail
        refine (C26.out (tv r0) _ (by first | omega | exact HTV)).mono ?_
        rintro e wa ⟨rfl, hwa⟩
        rw [hwa]; clear hwa wa
        cases n0 : isN (tv r0) with
        | false =>
          go_wp2
          exact bodyPost_ret (v := verV none) (by simp [results, Try.results20, go_sem, verV]) rfl ⟨by rw [HVON.out, chk_no0 n0], by repeat (first | exact Below.refl _ _ | refine Below.drew ?_ | refine Below.alloc ?_ (by simp) _)⟩
        | true =>
          go_wp2
          rw [rounds_succ]
          go_wp2_with fail
          refine (C26.out c1 _ (by first | omega | exact HTV)).mono ?_
          rintro e wa ⟨rfl, hwa⟩
          rw [hwa]; clear hwa wa
          cases n1 : isN c1 with
          | false =>
            go_wp2
            exact bodyPost_ret (v := verV none) (by simp [results, Try.results20, go_sem, verV]) rfl ⟨by rw [HVON.out, chk_no1 n1], by repeat (first | exact Below.refl _ _ | refine Below.drew ?_ | refine Below.alloc ?_ (by simp) _)⟩
          | true =>
            go_wp2
            rw [rounds_succ]
            go_wp2_with fail
            refine (C26.out c2 _ (by first | omega | exact HTV)).mono ?_
            rintro e wa ⟨rfl, hwa⟩
            rw [hwa]; clear hwa wa
            cases n2 : isN c2 with
            | false =>
              go_wp2
              exact bodyPost_ret (v := verV none) (by simp [results, Try.results20, go_sem, verV]) rfl ⟨by rw [HVON.out, chk_no2 n2], by repeat (first | exact Below.refl _ _ | refine Below.drew ?_ | refine Below.alloc ?_ (by simp) _)⟩
            | true =>
              go_wp2
              rw [rounds_succ]
              go_wp2
              exact bodyPost_ret (v := verV (some (tv r0, c1, c2))) (by simp [results, Try.results20, go_sem, verV]) rfl ⟨by rw [HVON.out, chk_yes n0 n1 n2], by repeat (first | exact Below.refl _ _ | refine Below.drew ?_ | refine Below.alloc ?_ (by simp) _)⟩
      | some x =>
        obtain ⟨pre, x0⟩ := x
        have e3 : lastPiece r0 = x0 := by unfold lastPiece; rw [h3]
        rw [e3] at HVON
        clear e3
        have S3 := sp_len h3
        have HTV : (tv x0).length ≤ 1048576 := Nat.le_trans (tv_len _) (by omega)
        go_wp2_with fail
        refine (CL.out r0 _ (by omega)).mono ?_
        rintro e wa ⟨rfl, hwa⟩
        rw [hwa]; clear hwa wa
        rw [last_some h3]
        have hz := by_size r0
        have x2 := cut_right h3
        go_wp2_with fail
        refine (CT.out x0 _).mono ?_
        rintro e wa ⟨rfl, hwa⟩
        rw [hwa]; clear hwa wa
        go_wp2
        have ix0 := idx0
        have ix1 := idx1
        have ix2 := idx2
        refine wp_loop_rounds 4 ?_
        rw [rounds_succ]
        go_wp2_with fail
        refine (C26.out (tv x0) _ (by first | omega | exact HTV)).mono ?_
        rintro e wa ⟨rfl, hwa⟩
        rw [hwa]; clear hwa wa
        cases n0 : isN (tv x0) with
        | false =>
          go_wp2
          exact bodyPost_ret (v := verV none) (by simp [results, Try.results20, go_sem, verV]) rfl ⟨by rw [HVON.out, chk_no0 n0], by repeat (first | exact Below.refl _ _ | refine Below.drew ?_ | refine Below.alloc ?_ (by simp) _)⟩
        | true =>
          go_wp2
          rw [rounds_succ]
          go_wp2_with fail
          refine (C26.out c1 _ (by first | omega | exact HTV)).mono ?_
          rintro e wa ⟨rfl, hwa⟩
          rw [hwa]; clear hwa wa
          cases n1 : isN c1 with
          | false =>
            go_wp2
            exact bodyPost_ret (v := verV none) (by simp [results, Try.results20, go_sem, verV]) rfl ⟨by rw [HVON.out, chk_no1 n1], by repeat (first | exact Below.refl _ _ | refine Below.drew ?_ | refine Below.alloc ?_ (by simp) _)⟩
          | true =>
            go_wp2
            rw [rounds_succ]
            go_wp2_with fail
            refine (C26.out c2 _ (by first | omega | exact HTV)).mono ?_
            rintro e wa ⟨rfl, hwa⟩
            rw [hwa]; clear hwa wa
            cases n2 : isN c2 with
            | false =>
              go_wp2
              exact bodyPost_ret (v := verV none) (by simp [results, Try.results20, go_sem, verV]) rfl ⟨by rw [HVON.out, chk_no2 n2], by repeat (first | exact Below.refl _ _ | refine Below.drew ?_ | refine Below.alloc ?_ (by simp) _)⟩
            | true =>
              go_wp2
              rw [rounds_succ]
              go_wp2
              exact bodyPost_ret (v := verV (some (tv x0, c1, c2))) (by simp [results, Try.results20, go_sem, verV]) rfl ⟨by rw [HVON.out, chk_yes n0 n1 n2], by repeat (first | exact Below.refl _ _ | refine Below.drew ?_ | refine Below.alloc ?_ (by simp) _)⟩

end Go.Proofs.Qxb6608992a
