import Derived.Test.Qxb6608511aEq
/-
  wellFormed (13): what its yes says.
-/
namespace Go.Proofs.Qxb6608511a
open Go.RowKit
set_option linter.unusedVariables false

/-- What wellFormed's yes says. -/
def WF : Nat → Int → Int → Tm → Prop
  | 0, _, _, _ => False
  | d + 1, mode, nb, t => (t.k = 0 ∧ t.n = 0 ∧ t.ts.length = 0) ∨ (t.k = 1 ∧ t.s.size = 0 ∧ t.ts.length = 0) ∨ (t.k = 2 ∧ t.n = 0 ∧ t.ts.length ≠ 0 ∧ ∀ i (h : i < t.ts.length), WF d mode nb t.ts[i]) ∨
      (t.k = 3 ∧ t.ts.length = 0 ∧ mode ≠ 0 ∧ (mode = 1 ∨ (0 ≤ t.n ∧ t.n < nb)))

/-- A bool whose yes says W. -/
def Yes (w : World) (W : Prop) : Ending → World → Prop := fun e w' => ∃ b, e = .returned (.bool b) ∧ (b = true → W) ∧ Below w.heap.size w w'

set_option maxHeartbeats 4000000 in
set_option maxRecDepth 100000 in
theorem wf_any : ∀ (d : Nat) (t : Tm) (v : Value) (w : World) (P : Nat → Prop) (mode nb : Int), Rep w P d t v →
    Calls Try.prog 13 #[v, .int .i64 mode, .int .i64 nb] w (Yes w (WF d mode nb t))
  | 0, _, _, _, _, _, _, h => h.elim
  | d + 1, t, v, w, P, mode, nb, h => by
    have IH : Hid (∀ (t : Tm) (v : Value) (w : World) (P : Nat → Prop), Rep w P d t v →
      Calls Try.prog 13 #[v, .int .i64 mode, .int .i64 nb] w (Yes w (WF d mode nb t))) := fun t v w P h => wf_any d t v w P mode nb h
    obtain ⟨a, c, rfl, h1, h2, h3, h4, h5, h6, h7⟩ := h.opn
    have HR := hid h
    clear h
    unfold big at h2
    unfold nodeV
    by_cases k0 : t.k = 0
    · have q0 : (t.k == 0) = true := by simp [k0]
      have K := hid k0
      clear k0
      go_enter Try.func13, Try.ntmps13
      by_cases n0 : t.n = 0
      · have p0 : (t.n == 0) = true := by simp [n0]
        have N := hid n0
        clear n0
        go_wp2
        go_ret
        exact ⟨_, rfl, fun h => .inl ⟨K.out, N.out, by simpa using h⟩, bel_one w _⟩
      · have p0 : (t.n == 0) = false := by simp [n0]
        clear n0
        go_wp2
        go_ret
        exact ⟨false, rfl, fun h => (by cases h), bel_one w _⟩
    have q0 : (t.k == 0) = false := by simp [k0]
    clear k0
    by_cases k1 : t.k = 1
    · have q1 : (t.k == 1) = true := by simp [k1]
      have K := hid k1
      clear k1
      go_enter Try.func13, Try.ntmps13
      by_cases n0 : t.s.toList = []
      · have N := hid n0
        go_wp2
        go_ret
        exact ⟨_, rfl, fun h => .inr (.inl ⟨K.out, by have := N.out; rw [ByteArray.toList_eq] at this; have := congrArg List.length this; simpa using this, by simpa using h⟩), bel_one w _⟩
      · go_wp2
        go_ret
        exact ⟨false, rfl, fun h => (by cases h), bel_one w _⟩
    have q1 : (t.k == 1) = false := by simp [k1]
    clear k1
    by_cases k2 : t.k = 2
    · have q2 : (t.k == 2) = true := by simp [k2]
      have K := hid k2
      clear k2
      by_cases n0 : t.n = 0
      · have p0 : (t.n != 0) = false := by simp [n0]
        have N := hid n0
        clear n0
        by_cases l0 : t.ts.length = 0
        · have p1 : ((t.ts.length : Int) == 0) = true := by simp [l0]
          clear l0
          go_enter Try.func13, Try.ntmps13
          go_wp2
          go_ret
          exact ⟨false, rfl, fun h => (by cases h), bel_one w _⟩
        · have p1 : ((t.ts.length : Int) == 0) = false := by simp [l0]
          have L := hid l0
          clear l0
          go_enter Try.func13, Try.ntmps13
          go_wp2
          go_loopw [7] (fun v7 wc => ∃ i : Nat, v7 = .int .i64 i ∧ i ≤ t.ts.length ∧ (∀ j (h : j < t.ts.length), j < i → WF d mode nb t.ts[j]) ∧ Below (w.heap.size + 1) (w.alloc (.cells #[.int .u8 t.k, .string t.s, .int .i64 t.n, .slice a t.ts.length c] 24)) wc) (fun v7 _ => t.ts.length - (intOf v7).toNat)
          case atStart => exact ⟨0, rfl, Nat.zero_le _, (fun _ _ h => absurd h (Nat.not_lt_zero _)), Below.refl _ _⟩
          case round =>
            obtain ⟨i, rfl, hi, hall, hbel⟩ := hrel
            have b3 := hbel.cell (p := ⟨w.heap.size, 3, none⟩) (Nat.lt_succ_self _)
            simp [go_sem] at b3
            have HB := hid hbel
            have HA := hid hall
            clear hall
            by_cases hlt : i < t.ts.length
            · obtain ⟨g, o, x0, x1, x2, x3, rfl, _, _, c0, c1, c2, c3, hkid⟩ := (HR.out.after hbel).kid hlt
              have C := hid (IH.out _ _ wr P hkid)
              clear hkid hbel
              go_wp2_with fail
              refine C.out.mono ?_
              rintro e wa ⟨b, rfl, hb, hwa⟩
              have HW := hid hwa
              have HY := hid hb
              clear hwa hb C
              cases b with
              | false =>
                go_wp2
                go_ret
                exact ⟨false, rfl, fun h => (by cases h), bel_start (bel_round HB.out HW.out) (Below.refl _ _)⟩
              | true =>
                have HN : Hid (∀ j (h : j < t.ts.length), j < i + 1 → WF d mode nb t.ts[j]) := by
                  intro j hj hji
                  by_cases e : j = i
                  · subst e; exact HY.out rfl
                  · exact HA.out j hj (by omega)
                clear HY
                go_wp2
                go_round
                case rel => exact ⟨i + 1, by go_num, by omega, HN.out, bel_round HB.out HW.out⟩
                case measure => simp [intOf]; omega
            · clear hbel
              go_wp2
              go_ret
              exact ⟨true, rfl, fun _ => .inr (.inr (.inl ⟨K.out, N.out, L.out, fun j hj => HA.out j hj (by omega)⟩)), bel_start HB.out (Below.refl _ _)⟩
      · have p0 : (t.n != 0) = true := by simp [n0]
        clear n0
        go_enter Try.func13, Try.ntmps13
        go_wp2
        go_ret
        exact ⟨false, rfl, fun h => (by cases h), bel_one w _⟩
    have q2 : (t.k == 2) = false := by simp [k2]
    clear k2
    by_cases k3 : t.k = 3
    · have q3 : (t.k == 3) = true := by simp [k3]
      have K := hid k3
      clear k3
      by_cases l0 : t.ts.length = 0
      · have p0 : ((t.ts.length : Int) != 0) = false := by simp [l0]
        have L := hid l0
        clear l0
        by_cases m0 : mode = 0
        · have p1 : (mode == 0) = true := by simp [m0]
          clear m0
          go_enter Try.func13, Try.ntmps13
          go_wp2
          go_ret
          exact ⟨false, rfl, fun h => (by cases h), bel_one w _⟩
        · have p1 : (mode == 0) = false := by simp [m0]
          have M := hid m0
          clear m0
          by_cases m1 : mode = 1
          · have p2 : (mode == 1) = true := by simp [m1]
            have M1 := hid m1
            clear m1
            go_enter Try.func13, Try.ntmps13
            go_wp2
            go_ret
            exact ⟨true, rfl, fun _ => .inr (.inr (.inr ⟨K.out, L.out, M.out, .inl M1.out⟩)), bel_one w _⟩
          · have p2 : (mode == 1) = false := by simp [m1]
            clear m1
            by_cases n0 : 0 ≤ t.n
            · go_enter Try.func13, Try.ntmps13
              go_wp2
              go_ret
              exact ⟨_, rfl, fun h => .inr (.inr (.inr ⟨K.out, L.out, M.out, .inr ⟨n0, by simpa using h⟩⟩)), bel_one w _⟩
            · go_enter Try.func13, Try.ntmps13
              go_wp2
              go_ret
              exact ⟨false, rfl, fun h => (by cases h), bel_one w _⟩
      · have p0 : ((t.ts.length : Int) != 0) = true := by simp [l0]
        clear l0
        go_enter Try.func13, Try.ntmps13
        go_wp2
        go_ret
        exact ⟨false, rfl, fun h => (by cases h), bel_one w _⟩
    have q3 : (t.k == 3) = false := by simp [k3]
    clear k3
    go_enter Try.func13, Try.ntmps13
    go_wp2
    go_ret
    exact ⟨false, rfl, fun h => (by cases h), bel_one w _⟩

end Go.Proofs.Qxb6608511a
