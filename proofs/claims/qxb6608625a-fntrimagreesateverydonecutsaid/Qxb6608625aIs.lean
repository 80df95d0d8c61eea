import Derived.Test.Qxb6608625aNew
/-
  zzOrderIs (11): it says yes where the order is the one that is asked for.
-/
namespace Go.Proofs.Qxb6608625a
open Go.RowKit
set_option linter.unusedVariables false

set_option maxHeartbeats 4000000 in
set_option maxRecDepth 100000 in
theorem is_some (w : World) (b r k : Nat) (K : Int) (hK : K = k) (qs : List Rq) (base arr ov lost : Int) (ho : Ord w b r qs k base arr ov lost) (hn : qs.length ≤ 1048576) (hr : r < w.heap.size) (g0 o0 c0 g1 o1 c1 g2 o2 c2 g3 o3 c3 g4 o4 c4 g5 o5 c5 : Nat)
    (k0 : ∀ j (hj : j < qs.length), w.cell? ⟨g0, o0 + j, none⟩ = some (fI qs[j])) (k1 : ∀ j (hj : j < qs.length), w.cell? ⟨g1, o1 + j, none⟩ = some (fB qs[j])) (k2 : ∀ j (hj : j < qs.length), w.cell? ⟨g2, o2 + j, none⟩ = some (fH qs[j]))
    (k3 : ∀ j (hj : j < qs.length), w.cell? ⟨g3, o3 + j, none⟩ = some (fD qs[j])) (k4 : ∀ j (hj : j < qs.length), w.cell? ⟨g4, o4 + j, none⟩ = some (fA qs[j])) (k5 : ∀ j (hj : j < qs.length), w.cell? ⟨g5, o5 + j, none⟩ = some (fL qs[j])) :
    Calls Try.prog 11 #[.pointer (some ⟨b, 0, none⟩), .slice (some ⟨g0, o0, none⟩) qs.length c0, .slice (some ⟨g1, o1, none⟩) qs.length c1, .slice (some ⟨g2, o2, none⟩) qs.length c2, .slice (some ⟨g3, o3, none⟩) qs.length c3, .slice (some ⟨g4, o4, none⟩) qs.length c4, .slice (some ⟨g5, o5, none⟩) qs.length c5, .int .i64 K, .int .i64 base, .int .i64 arr, .int .i64 ov, .int .i64 lost] w
      fun e w' => e = .returned (.bool true) ∧ Below w.heap.size w w' := by
  have hkl := ho.k_le
  have hbl := ho.lt
  have C9 := hid (len_any w b r qs k base arr ov lost ho)
  have C14 := hid (counts_any w b r qs k base arr ov lost ho)
  have HO := hid ho
  subst hK
  have hKb : ((qs.length - k : Nat) : Int) = (qs.length : Int) - (k : Int) := by omega
  rw [hKb] at C9
  clear ho hKb
  go_enter Try.func11, Try.ntmps11
  go_wp2_with fail
  refine C9.out.mono ?_
  rintro e wa ⟨rfl, hwa⟩
  rw [hwa]; clear hwa wa
  go_wp2_with fail
  refine C14.out.mono ?_
  rintro e wa ⟨rfl, q, hwa⟩
  rw [hwa]; clear hwa wa
  go_wp2_with fail
  go_loopw [30] (fun vj wr => ∃ j : Nat, j ≤ qs.length - k ∧ vj = .int .i64 j ∧ Below w.heap.size w wr) (fun vj _ => qs.length - k - (intOf vj).toNat)
  case atStart => exact ⟨0, by omega, rfl, (Below.refl _ _).trans ⟨rfl, rfl, rfl, Nat.le_refl _, fun _ _ => rfl⟩⟩
  case round =>
    obtain ⟨j, hj, rfl, hb⟩ := hrel
    by_cases hlt : j < qs.length - k
    · have hjq : k + j < qs.length := by omega
      have C15 := hid (req_any wr b r qs k j j rfl base arr ov lost (HO.out.kept (hb.block b hbl) (hb.block r hr)) hjq hn)
      have HK2 : (j : Int) < (qs.length : Int) - (k : Int) := by omega
      have e0 := cell_later hb (k0 (k + j) hjq)
      have e1 := cell_later hb (k1 (k + j) hjq)
      have e2 := cell_later hb (k2 (k + j) hjq)
      have e3 := cell_later hb (k3 (k + j) hjq)
      have e4 := cell_later hb (k4 (k + j) hjq)
      have e5 := cell_later hb (k5 (k + j) hjq)
      unfold fI at e0
      unfold fB at e1
      unfold fH at e2
      unfold fD at e3
      unfold fA at e4
      unfold fL at e5
      generalize qs[k + j] = p at *
      have HB := hid hb
      clear k0 k1 k2 k3 k4 k5 hb
      go_wp2_with fail
      refine C15.out.mono ?_
      rintro e w2 ⟨rfl, hb2⟩
      replace e0 := cell_later hb2 e0
      replace e1 := cell_later hb2 e1
      replace e2 := cell_later hb2 e2
      replace e3 := cell_later hb2 e3
      replace e4 := cell_later hb2 e4
      replace e5 := cell_later hb2 e5
      have HB2 := hid (HB.out.trans (hb2.mono HB.out.size))
      clear hb2 C15
      go_wp2
      go_roundw
      case rel => exact ⟨j + 1, by omega, by go_num, HB2.out⟩
      case measure => simp [intOf]; omega
    · obtain rfl : j = qs.length - k := by omega
      have HB := hid hb
      have hz : ¬ ((qs.length - k : Nat) : Int) < (qs.length : Int) - (k : Int) := by omega
      clear hb k0 k1 k2 k3 k4 k5
      go_wp2
      go_ret
      exact ⟨rfl, HB.out⟩

set_option maxHeartbeats 4000000 in
set_option maxRecDepth 100000 in
theorem is_empty (w : World) (b r : Nat) (base arr ov lost : Int) (ho : Ord w b r [] 0 base arr ov lost) (a0 a1 a2 a3 a4 a5 : Option Addr) (c0 c1 c2 c3 c4 c5 : Nat) :
    Calls Try.prog 11 #[.pointer (some ⟨b, 0, none⟩), .slice a0 0 c0, .slice a1 0 c1, .slice a2 0 c2, .slice a3 0 c3, .slice a4 0 c4, .slice a5 0 c5, .int .i64 0, .int .i64 base, .int .i64 arr, .int .i64 ov, .int .i64 lost] w
      fun e w' => e = .returned (.bool true) ∧ Below w.heap.size w w' := by
  have C9 := hid (len_any w b r [] 0 base arr ov lost ho)
  have C14 := hid (counts_any w b r [] 0 base arr ov lost ho)
  clear ho
  go_enter Try.func11, Try.ntmps11
  go_wp2_with fail
  refine C9.out.mono ?_
  rintro e wa ⟨rfl, hwa⟩
  rw [hwa]; clear hwa wa
  go_wp2_with fail
  refine C14.out.mono ?_
  rintro e wa ⟨rfl, q, hwa⟩
  rw [hwa]; clear hwa wa
  go_wp2_with fail
  refine wp_loop_rounds 1 ?_
  rw [rounds_succ]
  go_wp2
  go_ret
  exact ⟨rfl, (Below.refl _ _).trans ⟨rfl, rfl, rfl, Nat.le_refl _, fun _ _ => rfl⟩⟩

theorem is_any (w : World) (b r k : Nat) (K : Int) (hK : K = k) (qs : List Rq) (base arr ov lost : Int) (ho : Ord w b r qs k base arr ov lost) (hn : qs.length ≤ 1048576) (hr : r < w.heap.size) (v0 v1 v2 v3 v4 v5 : Value) (h : Six w v0 v1 v2 v3 v4 v5 qs) :
    Calls Try.prog 11 #[.pointer (some ⟨b, 0, none⟩), v0, v1, v2, v3, v4, v5, .int .i64 K, .int .i64 base, .int .i64 arr, .int .i64 ov, .int .i64 lost] w
      fun e w' => e = .returned (.bool true) ∧ Below w.heap.size w w' := by
  obtain ⟨r0, r1, r2, r3, r4, r5⟩ := h
  by_cases h0 : qs = []
  · subst h0
    obtain rfl : k = 0 := by have := ho.k_le; simpa using this
    subst hK
    obtain ⟨a0, c0, rfl⟩ := r0.shape
    obtain ⟨a1, c1, rfl⟩ := r1.shape
    obtain ⟨a2, c2, rfl⟩ := r2.shape
    obtain ⟨a3, c3, rfl⟩ := r3.shape
    obtain ⟨a4, c4, rfl⟩ := r4.shape
    obtain ⟨a5, c5, rfl⟩ := r5.shape
    exact is_empty w b r base arr ov lost ho a0 a1 a2 a3 a4 a5 c0 c1 c2 c3 c4 c5
  · rcases r0.opn with ⟨e, _⟩ | ⟨g0, o0, c0, rfl, k0⟩
    · exact absurd e h0
    rcases r1.opn with ⟨e, _⟩ | ⟨g1, o1, c1, rfl, k1⟩
    · exact absurd e h0
    rcases r2.opn with ⟨e, _⟩ | ⟨g2, o2, c2, rfl, k2⟩
    · exact absurd e h0
    rcases r3.opn with ⟨e, _⟩ | ⟨g3, o3, c3, rfl, k3⟩
    · exact absurd e h0
    rcases r4.opn with ⟨e, _⟩ | ⟨g4, o4, c4, rfl, k4⟩
    · exact absurd e h0
    rcases r5.opn with ⟨e, _⟩ | ⟨g5, o5, c5, rfl, k5⟩
    · exact absurd e h0
    exact is_some w b r k K hK qs base arr ov lost ho hn hr g0 o0 c0 g1 o1 c1 g2 o2 c2 g3 o3 c3 g4 o4 c4 g5 o5 c5 k0 k1 k2 k3 k4 k5

end Go.Proofs.Qxb6608625a
