import Derived.Test.Qxb6608992aIsn
/-
  zzModelVersion (15): it is 'mvAt true' of the bytes.
-/
namespace Go.Proofs.Qxb6608992a
open Go.RowKit
set_option linter.unusedVariables false

/-- May a version begin here? -/
def atB (s : ByteArray) (p : Nat) : Bool := p == 0 || s.data.toList[p - 1]? == some 45
/-- What is still to come from place p on. -/
def mvR (s : ByteArray) (p : Nat) : Option Tri := if p ≤ s.size then mvAt (atB s p) (s.data.toList.drop p) else none

theorem mvAt_nil (b : Bool) : mvAt b [] = none := by
  have : parse [] = none := parse_none (by simp)
  simp [mvAt, this]

theorem atB_succ (s : ByteArray) (p : Nat) (h : p < s.size) : atB s (p + 1) = (s[p] == 45) := by
  unfold atB
  have hl : p < s.data.toList.length := by simpa using h
  have : s.data.toList[p]? = some s[p] := by rw [List.getElem?_eq_getElem hl]; rfl
  simp [this]

theorem mvR_next (s : ByteArray) (p : Nat) (hp : p ≤ s.size) (h : atB s p = false ∨ parse (s.data.toList.drop p) = none) : mvR s p = mvR s (p + 1) := by
  unfold mvR
  rw [if_pos hp]
  by_cases hlt : p < s.size
  · rw [if_pos (by omega), drop_byte s p hlt, atB_succ s p hlt]
    rcases h with h | h
    · simp [mvAt, h]
    · rw [drop_byte s p hlt] at h
      simp [mvAt, h]
  · rw [if_neg (by omega), List.drop_eq_nil_of_le (by simp; omega), mvAt_nil]

theorem mvR_some (s : ByteArray) (p : Nat) (hp : p ≤ s.size) (hb : atB s p = true) {r : Tri} (h : parse (s.data.toList.drop p) = some r) : mvR s p = some r := by
  unfold mvR
  rw [if_pos hp, hb]
  cases hd : s.data.toList.drop p with
  | nil => rw [hd] at h; have : parse [] = none := parse_none (by simp); rw [this] at h; cases h
  | cons c t => rw [hd] at h; simp [mvAt, h]

theorem mvR_zero (s : ByteArray) : mvR s 0 = mvAt true s.data.toList := by simp [mvR, atB]

theorem bel_three {B : Nat} {a w : World} (h : Below B a w) {b : Nat} (hb : B ≤ b) {x y z : Value} : Below B a (((w.setCell ⟨b, 0, none⟩ x).setCell ⟨b, 1, none⟩ y).setCell ⟨b, 2, none⟩ z) :=
  ((h.setCell hb _).setCell hb _).setCell hb _
theorem bel_start {w wr wz : World} {o : Obj} (h : Below (w.heap.size + 1) (w.alloc o) wr) (h2 : Below w.heap.size wr wz) : Below w.heap.size w wz :=
  (Below.alloc (Below.refl _ _) (Nat.le_refl _) _).trans ((h.mono (Nat.le_succ _)).trans h2)
theorem bel_ta {w wr wa : World} {o' : Obj} (h2 : Below wr.heap.size wr wa) (hs : w.heap.size + 1 ≤ wr.heap.size) {x y z : Value} : Below w.heap.size wr ((((wa.setCell ⟨w.heap.size, 0, none⟩ x).setCell ⟨w.heap.size, 1, none⟩ y).setCell ⟨w.heap.size, 2, none⟩ z).alloc o') :=
  (bel_three (h2.mono (by omega)) (Nat.le_refl _)).alloc (by have := h2.size; simp; omega) _
theorem bel_next {w wr wa : World} {o o' : Obj} (h : Below (w.heap.size + 1) (w.alloc o) wr) (h2 : Below wr.heap.size wr wa) : Below (w.heap.size + 1) (w.alloc o) (wa.alloc o') := by
  have hs := h.size
  simp at hs
  have hs2 := h2.size
  exact h.trans ((h2.mono hs).alloc (Nat.le_trans hs hs2) _)

set_option maxHeartbeats 4000000 in
set_option maxRecDepth 100000 in
theorem model_any (s : ByteArray) (w : World) (hs : s.size ≤ 1048576) :
    Calls Try.prog 15 #[.string s] w fun e w' => e = .returned (triV (mvAt true s.data.toList)) ∧ Below w.heap.size w w' := by
  have C19 : Hid (∀ (p : Nat) (w : World), Calls Try.prog 19 #[.string (s.extract p s.size)] w fun e w' => e = .returned (triV (parse (s.data.toList.drop p))) ∧ Below w.heap.size w w') := by
    intro p w
    have := parse_any (s.extract p s.size) w (by rw [ByteArray.size_extract]; omega)
    have e : (s.extract p s.size).data.toList = s.data.toList.drop p := by
      rw [str_extract s p s.size (s.data.toList.drop p) (by rw [List.take_of_length_le]; simp)]
    rw [e] at this
    exact this
  go_enter Try.func15, Try.ntmps15
  go_wp2
  go_loopw [4] (fun v4 wc => ∃ p : Nat, p ≤ s.size + 1 ∧ v4 = .int .i64 p ∧ Below (w.heap.size + 1) (w.alloc (.cells #[.string ⟨#[]⟩, .string ⟨#[]⟩, .string ⟨#[]⟩] 26)) wc ∧ mvAt true s.data.toList = mvR s p) (fun v4 _ => s.size + 1 - (intOf v4).toNat)
  case atStart => exact ⟨0, by omega, rfl, Below.refl _ _, (mvR_zero s).symm⟩
  case round =>
    obtain ⟨p, hp, rfl, hbel, heq⟩ := hrel
    have f0 := hbel.frozen (p := ⟨w.heap.size, 0, none⟩) (Nat.lt_succ_self _)
    have f1 := hbel.frozen (p := ⟨w.heap.size, 1, none⟩) (Nat.lt_succ_self _)
    have f2 := hbel.frozen (p := ⟨w.heap.size, 2, none⟩) (Nat.lt_succ_self _)
    have c0 := hbel.cell (p := ⟨w.heap.size, 0, none⟩) (Nat.lt_succ_self _)
    have c1 := hbel.cell (p := ⟨w.heap.size, 1, none⟩) (Nat.lt_succ_self _)
    have c2 := hbel.cell (p := ⟨w.heap.size, 2, none⟩) (Nat.lt_succ_self _)
    simp [go_sem] at c0 c1 c2 f0 f1 f2
    have hsz : w.heap.size + 1 ≤ wr.heap.size := by have := hbel.size; simpa using this
    have HB := hid hbel
    have HQ := hid heq
    clear heq
    by_cases hlt : p ≤ s.size
    · cases hb : atB s p with
      | false =>
        have HN : Hid (mvR s p = mvR s (p + 1)) := mvR_next s p hlt (.inl hb)
        obtain ⟨q, rfl⟩ : ∃ q, p = q + 1 := by
          cases p with
          | zero => simp [atB] at hb
          | succ q => exact ⟨q, rfl⟩
        have hq : q < s.size := hlt
        have hx : ((s[q].toNat : Int) != 45) = true := by
          rw [atB_succ s q hq] at hb
          simp at hb ⊢
          intro e
          exact hb (UInt8.toNat_inj.1 (by show _ = 45; omega))
        have hq1 : (((q + 1 : Nat) : Int) - 1) = q := by omega
        clear hb hbel
        go_wp2
        go_round
        case rel => exact ⟨q + 1 + 1, by omega, by go_num, HB.out, HQ.out.trans HN.out⟩
        case measure => simp [intOf]; omega
      | true =>
        have C := hid (C19.out p wr)
        cases hpar : parse (s.data.toList.drop p) with
        | none =>
          have HN : Hid (mvR s p = mvR s (p + 1)) := mvR_next s p hlt (.inr hpar)
          rw [hpar] at C
          simp only [triV] at C
          clear hpar C19 hbel c0 c1 c2 f0 f1 f2
          cases p with
          | zero =>
            clear hb
            rw [show s.extract 0 s.size = s by simp] at C
            go_wp2_with fail
            refine C.out.mono ?_
            rintro e wa ⟨rfl, hwa⟩
            clear C
            have HW := hid hwa
            clear hwa
            go_wp2
            go_round
            case rel => exact ⟨0 + 1, by omega, rfl, bel_next HB.out HW.out, HQ.out.trans HN.out⟩
            case measure => simp [intOf]
          | succ q =>
            have hq : q < s.size := hlt
            have hx : ((s[q].toNat : Int) != 45) = false := by
              rw [atB_succ s q hq] at hb
              simp at hb
              simp [hb]
            have hq1 : (((q + 1 : Nat) : Int) - 1) = q := by omega
            clear hb
            go_wp2_with fail
            refine C.out.mono ?_
            rintro e wa ⟨rfl, hwa⟩
            clear C
            have HW := hid hwa
            clear hwa
            go_wp2
            go_round
            case rel => exact ⟨q + 1 + 1, by omega, by go_num, bel_next HB.out HW.out, HQ.out.trans HN.out⟩
            case measure => simp [intOf]; omega
        | some r =>
          have HN : Hid (mvAt true s.data.toList = some r) := HQ.out.trans (mvR_some s p hlt hb hpar)
          rw [hpar] at C
          obtain ⟨r0, r1, r2⟩ := r
          simp only [triV, str] at C
          clear hpar C19 hbel
          cases p with
          | zero =>
            clear hb
            rw [show s.extract 0 s.size = s by simp] at C
            go_wp2_with fail
            refine C.out.mono ?_
            rintro e wa ⟨rfl, hwa⟩
            clear C
            have g0 := (hwa.cell (p := ⟨w.heap.size, 0, none⟩) hsz).trans c0
            have g1 := (hwa.cell (p := ⟨w.heap.size, 1, none⟩) hsz).trans c1
            have g2 := (hwa.cell (p := ⟨w.heap.size, 2, none⟩) hsz).trans c2
            have e0 := (hwa.frozen (p := ⟨w.heap.size, 0, none⟩) hsz).trans f0
            have e1 := (hwa.frozen (p := ⟨w.heap.size, 1, none⟩) hsz).trans f1
            have e2 := (hwa.frozen (p := ⟨w.heap.size, 2, none⟩) hsz).trans f2
            have hlt' : w.heap.size < wa.heap.size := Nat.lt_of_lt_of_le hsz hwa.size
            have hne : w.heap.size ≠ wa.heap.size := Nat.ne_of_lt hlt'
            have HW := hid hwa
            clear hwa
            go_wp2
            exact bodyPost_ret (v := triV (some (r0, r1, r2))) (by simp [results, Try.results15, go_sem, triV, str, g0, g1, g2, hlt']) rfl ⟨by rw [HN.out], bel_start HB.out (bel_ta HW.out hsz)⟩
          | succ q =>
            have hq : q < s.size := hlt
            have hx : ((s[q].toNat : Int) != 45) = false := by
              rw [atB_succ s q hq] at hb
              simp at hb
              simp [hb]
            have hq1 : (((q + 1 : Nat) : Int) - 1) = q := by omega
            clear hb
            go_wp2_with fail
            refine C.out.mono ?_
            rintro e wa ⟨rfl, hwa⟩
            clear C
            have g0 := (hwa.cell (p := ⟨w.heap.size, 0, none⟩) hsz).trans c0
            have g1 := (hwa.cell (p := ⟨w.heap.size, 1, none⟩) hsz).trans c1
            have g2 := (hwa.cell (p := ⟨w.heap.size, 2, none⟩) hsz).trans c2
            have e0 := (hwa.frozen (p := ⟨w.heap.size, 0, none⟩) hsz).trans f0
            have e1 := (hwa.frozen (p := ⟨w.heap.size, 1, none⟩) hsz).trans f1
            have e2 := (hwa.frozen (p := ⟨w.heap.size, 2, none⟩) hsz).trans f2
            have hlt' : w.heap.size < wa.heap.size := Nat.lt_of_lt_of_le hsz hwa.size
            have hne : w.heap.size ≠ wa.heap.size := Nat.ne_of_lt hlt'
            have HW := hid hwa
            clear hwa
            go_wp2
            exact bodyPost_ret (v := triV (some (r0, r1, r2))) (by simp [results, Try.results15, go_sem, triV, str, g0, g1, g2, hlt']) rfl ⟨by rw [HN.out], bel_start HB.out (bel_ta HW.out hsz)⟩
    · have HN : Hid (mvAt true s.data.toList = none) := by
        show _ = _
        rw [HQ.out]; unfold mvR; rw [if_neg hlt]
      clear hbel
      go_wp2
      exact bodyPost_ret (v := triV none) (by simp [results, Try.results15, go_sem, triV, c0, c1, c2]) rfl ⟨by rw [HN.out], bel_start HB.out (bel_three (Below.refl _ _) (Nat.le_refl _))⟩

end Go.Proofs.Qxb6608992a
