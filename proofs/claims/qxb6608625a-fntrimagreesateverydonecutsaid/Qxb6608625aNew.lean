import Derived.Test.Qxb6608625aReads
import Derived.Deep.RegionHeld3
/-
  ZZNewRequestOrder (7).
-/
namespace Go.Proofs.Qxb6608625a
open Go.RowKit
set_option linter.unusedVariables false

theorem info44 : (Try.prog.info? 44).map (fun i => (i.zero, i.size, i.bytes)) = some (some (.agg #[.int .u32 0, .int .u32 0, .int .i64 0, .bool false, .bool false, .bool false]), 6, 24) := by kernel_rfl

/-- Six cells stored anew from place j * 6 on. -/
def six (xs : List Value) (j : Nat) (a0 a1 a2 a3 a4 a5 : Value) : List Value := (((((xs.set (j * 6) a0).set (j * 6 + 1) a1).set (j * 6 + 2) a2).set (j * 6 + 3) a3).set (j * 6 + 4) a4).set (j * 6 + 5) a5
theorem six_there (xs : List Value) (i j m : Nat) (a0 a1 a2 a3 a4 a5 : Value) (hij : i ≠ j) (hm : m < 6) : (six xs j a0 a1 a2 a3 a4 a5)[6 * i + m]? = xs[6 * i + m]? := by
  unfold six
  rw [List.getElem?_set_ne (by omega), List.getElem?_set_ne (by omega), List.getElem?_set_ne (by omega), List.getElem?_set_ne (by omega), List.getElem?_set_ne (by omega), List.getElem?_set_ne (by omega)]
theorem six_here (xs : List Value) (j : Nat) (a0 a1 a2 a3 a4 a5 : Value) (h : j * 6 + 5 < xs.length) :
    (six xs j a0 a1 a2 a3 a4 a5)[6 * j]? = some a0 ∧ (six xs j a0 a1 a2 a3 a4 a5)[6 * j + 1]? = some a1 ∧ (six xs j a0 a1 a2 a3 a4 a5)[6 * j + 2]? = some a2 ∧ (six xs j a0 a1 a2 a3 a4 a5)[6 * j + 3]? = some a3 ∧ (six xs j a0 a1 a2 a3 a4 a5)[6 * j + 4]? = some a4 ∧ (six xs j a0 a1 a2 a3 a4 a5)[6 * j + 5]? = some a5 := by
  have e : 6 * j = j * 6 := by omega
  rw [e]
  unfold six
  refine ⟨?_, ?_, ?_, ?_, ?_, ?_⟩
  · rw [List.getElem?_set_ne (by omega), List.getElem?_set_ne (by omega), List.getElem?_set_ne (by omega), List.getElem?_set_ne (by omega), List.getElem?_set_ne (by omega), List.getElem?_set_self (by first | omega | (simp only [List.length_set]; omega))]
  · rw [List.getElem?_set_ne (by omega), List.getElem?_set_ne (by omega), List.getElem?_set_ne (by omega), List.getElem?_set_ne (by omega), List.getElem?_set_self (by first | omega | (simp only [List.length_set]; omega))]
  · rw [List.getElem?_set_ne (by omega), List.getElem?_set_ne (by omega), List.getElem?_set_ne (by omega), List.getElem?_set_self (by first | omega | (simp only [List.length_set]; omega))]
  · rw [List.getElem?_set_ne (by omega), List.getElem?_set_ne (by omega), List.getElem?_set_self (by first | omega | (simp only [List.length_set]; omega))]
  · rw [List.getElem?_set_ne (by omega), List.getElem?_set_self (by first | omega | (simp only [List.length_set]; omega))]
  · rw [List.getElem?_set_self (by first | omega | (simp only [List.length_set]; omega))]
theorem six_own {wr : World} {H n j : Nat} {xs : List Value} (h : wr.ownsRow H 44 6 (.slice (some ⟨H, 0, none⟩) n n) n xs) (a0 a1 a2 a3 a4 a5 : Value) :
    ((((((wr.setCell ⟨H, j * 6, none⟩ a0).setCell ⟨H, j * 6 + 1, none⟩ a1).setCell ⟨H, j * 6 + 2, none⟩ a2).setCell ⟨H, j * 6 + 3, none⟩ a3).setCell ⟨H, j * 6 + 4, none⟩ a4).setCell ⟨H, j * 6 + 5, none⟩ a5).drew.ownsRow H 44 6 (.slice (some ⟨H, 0, none⟩) n n) n (six xs j a0 a1 a2 a3 a4 a5) := by
  have h0 := (h.stored (j * 6) a0).1
  have h1 := (h0.stored (j * 6 + 1) a1).1
  have h2 := (h1.stored (j * 6 + 2) a2).1
  have h3 := (h2.stored (j * 6 + 3) a3).1
  have h4 := (h3.stored (j * 6 + 4) a4).1
  have h5 := (h4.stored (j * 6 + 5) a5).1
  unfold six
  exact h5.drew
theorem six_below {w wr : World} {H j : Nat} (h : Below H w wr) (a0 a1 a2 a3 a4 a5 : Value) :
    Below H w ((((((wr.setCell ⟨H, j * 6, none⟩ a0).setCell ⟨H, j * 6 + 1, none⟩ a1).setCell ⟨H, j * 6 + 2, none⟩ a2).setCell ⟨H, j * 6 + 3, none⟩ a3).setCell ⟨H, j * 6 + 4, none⟩ a4).setCell ⟨H, j * 6 + 5, none⟩ a5).drew :=
  ((((((h.setCell (Nat.le_refl _) _).setCell (Nat.le_refl _) _).setCell (Nat.le_refl _) _).setCell (Nat.le_refl _) _).setCell (Nat.le_refl _) _).setCell (Nat.le_refl _) _).drew

/-- The six cells of request i. -/
def SixAt (xs : List Value) (i : Nat) (q : Rq) : Prop := xs[6 * i]? = some (fI q) ∧ xs[6 * i + 1]? = some (fB q) ∧ xs[6 * i + 2]? = some (fH q) ∧ xs[6 * i + 3]? = some (fD q) ∧ xs[6 * i + 4]? = some (fA q) ∧ xs[6 * i + 5]? = some (fL q)

theorem six_step {xs : List Value} {qs : List Rq} {j : Nat} {p : Rq} (h : ∀ i (hi : i < qs.length), i < j → SixAt xs i qs[i]) (hj : j < qs.length) (hp : qs[j] = p) (hx : j * 6 + 5 < xs.length) :
    ∀ i (hi : i < qs.length), i < j + 1 → SixAt (six xs j (.int .u32 p.i) (.int .u32 p.b) (.int .i64 p.h) (.bool p.d) (.bool p.a) (.bool p.l)) i qs[i] := by
  intro i hi hij
  by_cases e : i = j
  · subst e
    rw [hp]
    exact six_here xs i _ _ _ _ _ _ hx
  · obtain ⟨h0, h1, h2, h3, h4, h5⟩ := h i hi (by omega)
    refine ⟨?_, ?_, ?_, ?_, ?_, ?_⟩
    · exact (six_there xs i j 0 _ _ _ _ _ _ e (by omega)).trans h0
    · exact (six_there xs i j 1 _ _ _ _ _ _ e (by omega)).trans h1
    · exact (six_there xs i j 2 _ _ _ _ _ _ e (by omega)).trans h2
    · exact (six_there xs i j 3 _ _ _ _ _ _ e (by omega)).trans h3
    · exact (six_there xs i j 4 _ _ _ _ _ _ e (by omega)).trans h4
    · exact (six_there xs i j 5 _ _ _ _ _ _ e (by omega)).trans h5

/-- The order that is made. -/
theorem ord_made {wr : World} {H n : Nat} {xs : List Value} {qs : List Rq} {base arr ov lost : Int} (hown : wr.ownsRow H 44 6 (.slice (some ⟨H, 0, none⟩) n n) n xs) (hq : qs.length = n) (hxs : ∀ i (hi : i < qs.length), i < n → SixAt xs i qs[i]) :
    Ord (wr.alloc (.cells #[.slice (some ⟨H, 0, none⟩) n n, .int .i64 base, .int .i64 arr, .int .i64 ov, .int .i64 lost, .int .i64 0, .int .i64 0, .int .i64 0, .int .i64 0, .int .i64 0, .int .i64 0] 49)) wr.heap.size H qs 0 base arr ov lost := by
  have hlt : H < wr.heap.size := (hown.lt H rfl).2
  have hc : ∀ o, (wr.alloc (.cells #[.slice (some ⟨H, 0, none⟩) n n, .int .i64 base, .int .i64 arr, .int .i64 ov, .int .i64 lost, .int .i64 0, .int .i64 0, .int .i64 0, .int .i64 0, .int .i64 0, .int .i64 0] 49)).cell? ⟨H, o, none⟩ = wr.cell? ⟨H, o, none⟩ := fun o => cellEq (Below.heap_alloc _ _ _ hlt)
  subst hq
  refine ⟨Nat.zero_le _, ⟨_, by simp, fun _ => rfl⟩, by simp, by simp, by simp, by simp, fun j => by simp, by omega, fun j hj => ?_, fun j hj => ?_, fun j hj => ?_, fun j hj => ?_, fun j hj => ?_, fun j hj => ?_⟩
  · rw [hc, hown.cellAt _ (by omega)]; exact (hxs j hj hj).1
  · rw [hc, hown.cellAt _ (by omega)]; exact (hxs j hj hj).2.1
  · rw [hc, hown.cellAt _ (by omega)]; exact (hxs j hj hj).2.2.1
  · rw [hc, hown.cellAt _ (by omega)]; exact (hxs j hj hj).2.2.2.1
  · rw [hc, hown.cellAt _ (by omega)]; exact (hxs j hj hj).2.2.2.2.1
  · rw [hc, hown.cellAt _ (by omega)]; exact (hxs j hj hj).2.2.2.2.2

set_option maxHeartbeats 4000000 in
set_option maxRecDepth 100000 in
theorem new_some (w : World) (n : Nat) (qs : List Rq) (base arr ov lost : Int) (hq : qs.length = n) (hn : n ≤ 1048576) (g0 o0 c0 g1 o1 c1 g2 o2 c2 g3 o3 c3 g4 o4 c4 g5 o5 c5 : Nat)
    (k0 : ∀ j (hj : j < qs.length), w.cell? ⟨g0, o0 + j, none⟩ = some (fI qs[j])) (k1 : ∀ j (hj : j < qs.length), w.cell? ⟨g1, o1 + j, none⟩ = some (fB qs[j])) (k2 : ∀ j (hj : j < qs.length), w.cell? ⟨g2, o2 + j, none⟩ = some (fH qs[j]))
    (k3 : ∀ j (hj : j < qs.length), w.cell? ⟨g3, o3 + j, none⟩ = some (fD qs[j])) (k4 : ∀ j (hj : j < qs.length), w.cell? ⟨g4, o4 + j, none⟩ = some (fA qs[j])) (k5 : ∀ j (hj : j < qs.length), w.cell? ⟨g5, o5 + j, none⟩ = some (fL qs[j])) :
    Calls Try.prog 7 #[.slice (some ⟨g0, o0, none⟩) n c0, .slice (some ⟨g1, o1, none⟩) n c1, .slice (some ⟨g2, o2, none⟩) n c2, .slice (some ⟨g3, o3, none⟩) n c3, .slice (some ⟨g4, o4, none⟩) n c4, .slice (some ⟨g5, o5, none⟩) n c5, .int .i64 base, .int .i64 arr, .int .i64 ov, .int .i64 lost] w
      fun e w' => ∃ b, e = .returned (.pointer (some ⟨b, 0, none⟩)) ∧ Ord w' b w.heap.size qs 0 base arr ov lost ∧ Below w.heap.size w w' ∧ w.heap.size < b := by
  obtain ⟨i0, hi, hz0, hz1, hz2⟩ := info_parts info44
  go_enter Try.func7, Try.ntmps7
  go_wp2_with (at_make; refine wpList_make_full _ rfl _ _ 40 rfl w.heap.size 44 i0 (.agg #[.int .u32 0, .int .u32 0, .int .i64 0, .bool false, .bool false, .bool false]) 6 Try.underlying40 hi hz0 hz1 .i64 .i64 n n n rfl rfl rfl rfl (by rw [hz2]; omega) (by unfold maxLen; omega) (by omega) ?_; intro w1 hown1 hgrow1)
  have hb1 : Below w.heap.size w w1 := (Below.refl _ _).grown hgrow1 (Nat.le_refl _) (fun k hk => by cases hk)
  clear hi hz0 hz1 hz2
  go_loopw [28] (fun vi wr => ∃ (j : Nat) (xs : List Value), j ≤ n ∧ vi = .int .i64 j ∧ wr.ownsRow w.heap.size 44 6 (.slice (some ⟨w.heap.size, 0, none⟩) n n) n xs ∧
      (∀ i (hi : i < qs.length), i < j → SixAt xs i qs[i]) ∧ Below w.heap.size w wr)
    (fun vi _ => n - (intOf vi).toNat)
  case atStart => exact ⟨0, _, by omega, rfl, hown1, fun i _ h => by omega, hb1⟩
  case round =>
    obtain ⟨j, xs, hj, rfl, hown, hxs, hb⟩ := hrel
    have hlen : xs.length = n * 6 := hown.1
    clear hown1 hgrow1 hb1
    by_cases hlt : j < n
    · have hjq : j < qs.length := by omega
      have i0 := cell_later hb (k0 j hjq)
      have i1 := cell_later hb (k1 j hjq)
      have i2 := cell_later hb (k2 j hjq)
      have i3 := cell_later hb (k3 j hjq)
      have i4 := cell_later hb (k4 j hjq)
      have i5 := cell_later hb (k5 j hjq)
      have m0 : ∃ v, wr.cell? ⟨w.heap.size, j * 6, none⟩ = some v := ⟨_, by rw [hown.cellAt (j * 6) (by omega)]; exact List.getElem?_eq_getElem (by omega)⟩
      have m1 : ∃ v, wr.cell? ⟨w.heap.size, j * 6 + 1, none⟩ = some v := ⟨_, by rw [hown.cellAt (j * 6 + 1) (by omega)]; exact List.getElem?_eq_getElem (by omega)⟩
      have m2 : ∃ v, wr.cell? ⟨w.heap.size, j * 6 + 2, none⟩ = some v := ⟨_, by rw [hown.cellAt (j * 6 + 2) (by omega)]; exact List.getElem?_eq_getElem (by omega)⟩
      have m3 : ∃ v, wr.cell? ⟨w.heap.size, j * 6 + 3, none⟩ = some v := ⟨_, by rw [hown.cellAt (j * 6 + 3) (by omega)]; exact List.getElem?_eq_getElem (by omega)⟩
      have m4 : ∃ v, wr.cell? ⟨w.heap.size, j * 6 + 4, none⟩ = some v := ⟨_, by rw [hown.cellAt (j * 6 + 4) (by omega)]; exact List.getElem?_eq_getElem (by omega)⟩
      have m5 : ∃ v, wr.cell? ⟨w.heap.size, j * 6 + 5, none⟩ = some v := ⟨_, by rw [hown.cellAt (j * 6 + 5) (by omega)]; exact List.getElem?_eq_getElem (by omega)⟩
      obtain ⟨v0, m0⟩ := m0
      obtain ⟨v1, m1⟩ := m1
      obtain ⟨v2, m2⟩ := m2
      obtain ⟨v3, m3⟩ := m3
      obtain ⟨v4, m4⟩ := m4
      obtain ⟨v5, m5⟩ := m5
      have z0 := hown.frozenAt (j * 6)
      have z1 := hown.frozenAt (j * 6 + 1)
      have z2 := hown.frozenAt (j * 6 + 2)
      have z3 := hown.frozenAt (j * 6 + 3)
      have z4 := hown.frozenAt (j * 6 + 4)
      have z5 := hown.frozenAt (j * 6 + 5)
      have n0 : ¬ w.heap.size = g0 := by have := World.block_lt_of_cell? _ _ (k0 j hjq); simp at this; omega
      have n1 : ¬ w.heap.size = g1 := by have := World.block_lt_of_cell? _ _ (k1 j hjq); simp at this; omega
      have n2 : ¬ w.heap.size = g2 := by have := World.block_lt_of_cell? _ _ (k2 j hjq); simp at this; omega
      have n3 : ¬ w.heap.size = g3 := by have := World.block_lt_of_cell? _ _ (k3 j hjq); simp at this; omega
      have n4 : ¬ w.heap.size = g4 := by have := World.block_lt_of_cell? _ _ (k4 j hjq); simp at this; omega
      have n5 : ¬ w.heap.size = g5 := by have := World.block_lt_of_cell? _ _ (k5 j hjq); simp at this; omega
      have HO := hid hown
      have HB := hid hb
      have HX := hid hxs
      unfold fI at i0
      unfold fB at i1
      unfold fH at i2
      unfold fD at i3
      unfold fA at i4
      unfold fL at i5
      obtain ⟨p, hp⟩ : ∃ p, qs[j] = p := ⟨_, rfl⟩
      rw [hp] at i0 i1 i2 i3 i4 i5
      have HP := hid hp
      have b0 : (0 : Int) ≤ (j : Int) := by omega
      have b1 : (j : Int) < (n : Int) := by omega
      clear hown hb hxs hp k0 k1 k2 k3 k4 k5
      go_wp2
      go_region_held3 (fun w' => w'.cell? ⟨g0, o0 + j, none⟩ = some (.int .u32 p.i) ∧ w'.cell? ⟨g1, o1 + j, none⟩ = some (.int .u32 p.b) ∧ w'.cell? ⟨g2, o2 + j, none⟩ = some (.int .i64 p.h) ∧ w'.cell? ⟨g3, o3 + j, none⟩ = some (.bool p.d) ∧ w'.cell? ⟨g4, o4 + j, none⟩ = some (.bool p.a) ∧ w'.cell? ⟨g5, o5 + j, none⟩ = some (.bool p.l)) (go_keep) (fail)
      go_wp2
      go_roundw
      case rel => exact ⟨j + 1, _, by omega, by go_num, six_own HO.out _ _ _ _ _ _, six_step HX.out hjq HP.out (by omega), six_below HB.out _ _ _ _ _ _⟩
      case measure => simp [intOf]; omega
    · obtain rfl : j = n := by omega
      have HO := hid hown
      have HB := hid hb
      have HX := hid hxs
      clear hown hb hxs k0 k1 k2 k3 k4 k5
      go_wp2
      go_ret
      exact ⟨wr.heap.size, rfl, ord_made HO.out hq HX.out, HB.out.alloc HB.out.size _, (HO.out.lt _ rfl).2⟩

set_option maxHeartbeats 4000000 in
set_option maxRecDepth 100000 in
theorem new_empty (w : World) (base arr ov lost : Int) (a0 a1 a2 a3 a4 a5 : Option Addr) (c0 c1 c2 c3 c4 c5 : Nat) :
    Calls Try.prog 7 #[.slice a0 0 c0, .slice a1 0 c1, .slice a2 0 c2, .slice a3 0 c3, .slice a4 0 c4, .slice a5 0 c5, .int .i64 base, .int .i64 arr, .int .i64 ov, .int .i64 lost] w
      fun e w' => ∃ b, e = .returned (.pointer (some ⟨b, 0, none⟩)) ∧ Ord w' b w.heap.size [] 0 base arr ov lost ∧ Below w.heap.size w w' ∧ w.heap.size < b := by
  obtain ⟨i0, hi, hz0, hz1, hz2⟩ := info_parts info44
  go_enter Try.func7, Try.ntmps7
  go_wp2_with (at_make; refine wpList_make_full _ rfl _ _ 40 rfl w.heap.size 44 i0 (.agg #[.int .u32 0, .int .u32 0, .int .i64 0, .bool false, .bool false, .bool false]) 6 Try.underlying40 hi hz0 hz1 .i64 .i64 0 0 0 rfl rfl rfl rfl (by rw [hz2]; omega) (by unfold maxLen; omega) (by omega) ?_; intro w1 hown1 hgrow1)
  have hb1 : Below w.heap.size w w1 := (Below.refl _ _).grown hgrow1 (Nat.le_refl _) (fun k hk => by cases hk)
  have HO := hid hown1
  have HB := hid hb1
  clear hi hz0 hz1 hz2 hown1 hgrow1 hb1
  refine wp_loop_rounds 1 ?_
  rw [rounds_succ]
  go_wp2
  go_ret
  exact ⟨w1.heap.size, rfl, ord_made HO.out rfl (fun i hi => by simp at hi), HB.out.alloc HB.out.size _, (HO.out.lt _ rfl).2⟩

/-- Six rows that hold the requests qs, field by field. -/
structure Six (w : World) (v0 v1 v2 v3 v4 v5 : Value) (qs : List Rq) : Prop where
  r0 : Row w v0 (qs.map fI)
  r1 : Row w v1 (qs.map fB)
  r2 : Row w v2 (qs.map fH)
  r3 : Row w v3 (qs.map fD)
  r4 : Row w v4 (qs.map fA)
  r5 : Row w v5 (qs.map fL)
theorem Six.later {w w' : World} {v0 v1 v2 v3 v4 v5 : Value} {qs : List Rq} (h : Six w v0 v1 v2 v3 v4 v5 qs) (hb : Below w.heap.size w w') : Six w' v0 v1 v2 v3 v4 v5 qs :=
  ⟨h.r0.later hb, h.r1.later hb, h.r2.later hb, h.r3.later hb, h.r4.later hb, h.r5.later hb⟩

def NewPost (qs : List Rq) (base arr ov lost : Int) (w : World) (e : Ending) (w' : World) : Prop := ∃ b, e = .returned (.pointer (some ⟨b, 0, none⟩)) ∧ Ord w' b w.heap.size qs 0 base arr ov lost ∧ Below w.heap.size w w' ∧ w.heap.size < b

theorem new_any (w : World) (qs : List Rq) (base arr ov lost : Int) (hn : qs.length ≤ 1048576) (v0 v1 v2 v3 v4 v5 : Value) (h : Six w v0 v1 v2 v3 v4 v5 qs) :
    Calls Try.prog 7 #[v0, v1, v2, v3, v4, v5, .int .i64 base, .int .i64 arr, .int .i64 ov, .int .i64 lost] w (NewPost qs base arr ov lost w) := by
  obtain ⟨r0, r1, r2, r3, r4, r5⟩ := h
  by_cases h0 : qs = []
  · subst h0
    obtain ⟨a0, c0, rfl⟩ := r0.shape
    obtain ⟨a1, c1, rfl⟩ := r1.shape
    obtain ⟨a2, c2, rfl⟩ := r2.shape
    obtain ⟨a3, c3, rfl⟩ := r3.shape
    obtain ⟨a4, c4, rfl⟩ := r4.shape
    obtain ⟨a5, c5, rfl⟩ := r5.shape
    exact new_empty w base arr ov lost a0 a1 a2 a3 a4 a5 c0 c1 c2 c3 c4 c5
  · rcases r0.opn with ⟨e, _⟩ | ⟨g0, o0, c0, rfl, k0⟩
    · exact absurd e h0
    rcases r1.opn with ⟨e, _⟩ | ⟨g1, o1, c1, rfl, k1⟩
    · exact absurd e h0
    rcases r2.opn with ⟨e, _⟩ | ⟨g2, o2, c2, rfl, k2⟩
    · exact absurd e h0
    rcases r3.opn with ⟨e, _⟩ | ⟨g3, o3, c3, rfl, k3⟩
    · exact absurd e h0
    rcases r4.opn with ⟨e, _⟩ | ⟨g4, o4, c4, rfl, k4⟩
    · exact absurd e h0
    rcases r5.opn with ⟨e, _⟩ | ⟨g5, o5, c5, rfl, k5⟩
    · exact absurd e h0
    exact new_some w qs.length qs base arr ov lost rfl hn g0 o0 c0 g1 o1 c1 g2 o2 c2 g3 o3 c3 g4 o4 c4 g5 o5 c5 k0 k1 k2 k3 k4 k5

end Go.Proofs.Qxb6608625a
