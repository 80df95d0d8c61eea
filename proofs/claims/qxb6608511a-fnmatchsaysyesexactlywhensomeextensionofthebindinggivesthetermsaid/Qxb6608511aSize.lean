import Derived.Test.Qxb6608511aTm
/-
  sizeLeft (12): it comes back, whatever number it gives.
-/
namespace Go.Proofs.Qxb6608511a
open Go.RowKit
set_option linter.unusedVariables false

set_option maxHeartbeats 4000000 in
set_option maxRecDepth 100000 in
theorem size_any : ∀ (d : Nat) (t : Tm) (v : Value) (w : World) (P : Nat → Prop) (bud : Int), Rep w P d t v →
    Calls Try.prog 12 #[v, .int .i64 bud] w fun e w' => (∃ r, e = .returned (.int .i64 r)) ∧ Below w.heap.size w w'
  | 0, _, _, _, _, _, h => h.elim
  | d + 1, t, v, w, P, bud, h => by
    have IH : Hid (∀ (t : Tm) (v : Value) (w : World) (P : Nat → Prop) (bud : Int), Rep w P d t v →
      Calls Try.prog 12 #[v, .int .i64 bud] w fun e w' => (∃ r, e = .returned (.int .i64 r)) ∧ Below w.heap.size w w') := fun t v w P bud h => size_any d t v w P bud h
    have h' := h
    obtain ⟨a, c, rfl, h1, h2, h3, h4, h5, h6, h7⟩ := h'.opn
    have HR := hid h
    clear h h'
    unfold big at h2
    unfold nodeV
    go_enter Try.func12, Try.ntmps12
    go_wp2
    go_loopw [1, 5] (fun v1 v5 wc => ∃ (r : Int) (i : Nat), v1 = .int .i64 r ∧ v5 = .int .i64 i ∧ i ≤ t.ts.length ∧ Below (w.heap.size + 1) (w.alloc (.cells #[.int .u8 t.k, .string t.s, .int .i64 t.n, .slice a t.ts.length c] 24)) wc) (fun _ v5 _ => t.ts.length - (intOf v5).toNat)
    case atStart => exact ⟨_, 0, rfl, rfl, Nat.zero_le _, Below.refl _ _⟩
    case round =>
      obtain ⟨r, i, rfl, rfl, hi, hbel⟩ := hrel
      have b3 := hbel.cell (p := ⟨w.heap.size, 3, none⟩) (Nat.lt_succ_self _)
      simp [go_sem] at b3
      have HB := hid hbel
      by_cases hlt : i < t.ts.length
      · by_cases hr : 0 ≤ r
        · obtain ⟨g, o, x0, x1, x2, x3, rfl, _, _, c0, c1, c2, c3, hkid⟩ := (HR.out.after hbel).kid hlt
          have HK := hid hkid
          clear hkid hbel
          go_wp2_with fail
          refine (IH.out _ _ wr P r HK.out).mono ?_
          rintro e wa ⟨⟨r', rfl⟩, hwa⟩
          have HA := hid hwa
          clear hwa
          go_wp2
          go_round
          case rel => exact ⟨r', i + 1, rfl, by go_num, by omega, bel_round HB.out HA.out⟩
          case measure => simp [intOf]; omega
        · clear hbel
          go_wp2
          go_ret
          exact ⟨⟨_, rfl⟩, bel_start HB.out (Below.refl _ _)⟩
      · clear hbel
        go_wp2
        go_ret
        exact ⟨⟨_, rfl⟩, bel_start HB.out (Below.refl _ _)⟩

end Go.Proofs.Qxb6608511a
