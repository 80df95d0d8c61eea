import Derived.Test.Qxb6605944aRows
import Derived.Test.Qxb6605944aLine
import Derived.WalkKit
import Derived.WalkSpells
namespace Go.Proofs.Qxb6605944a
open Go.RowKit
set_option linter.unusedVariables false

theorem info5 : (Try.prog.info? 5).map (fun i => (i.zero, i.size, i.bytes)) = some (some (.int .u8 0), 1, 1) := by kernel_rfl

set_option maxHeartbeats 1000000 in
set_option maxRecDepth 100000 in
theorem clone_nil (w : World) :
    Calls Try.prog 8 #[.slice none 0 0] w fun e w' => e = .returned (.slice none 0 0) ∧ w' = w := by
  have q : ∀ (w : World) (a : Option Addr) (n c : Nat), (binOp .eql 22 (.slice a n c) (.slice none 0 0)).run Try.prog w = .ok (.bool a.isNone) w := fun w a n c => Lib.run_eql_slice_nil w _ _ a n c 0 0 Try.underlying22
  go_enter Try.func8, Try.ntmps8
  go_wp2
  go_ret
  exact ⟨rfl, rfl⟩

set_option maxHeartbeats 1000000 in
set_option maxRecDepth 100000 in
theorem clone_some (x : Addr) (n c : Nat) (l : List UInt8) (w : World) (hl : l.length = n) (hn : n ≤ 65536)
    (hx : n = 0 ∨ ∃ g o, x = ⟨g, o, none⟩ ∧ ∀ j (hj : j < l.length), w.cell? ⟨g, o + j, none⟩ = some (.int .u8 (l[j]).toNat)) :
    Calls Try.prog 8 #[.slice (some x) n c] w fun e w' => e = .returned (.slice (some ⟨w.heap.size, 0, none⟩) n n) ∧
      (∀ j (hj : j < l.length), w'.cell? ⟨w.heap.size, j, none⟩ = some (.int .u8 (l[j]).toNat)) ∧ Below w.heap.size w w' ∧ w.heap.size < w'.heap.size := by
  have q : ∀ (w : World) (a : Option Addr) (n c : Nat), (binOp .eql 22 (.slice a n c) (.slice none 0 0)).run Try.prog w = .ok (.bool a.isNone) w := fun w a n c => Lib.run_eql_slice_nil w _ _ a n c 0 0 Try.underlying22
  obtain ⟨i0, hi, hz0, hz1, hz2⟩ := info_parts info5
  go_enter Try.func8, Try.ntmps8
  go_wp2_with (at_make; refine wpList_make_full _ rfl _ _ 22 rfl w.heap.size 5 i0 (.int .u8 0) 1 Try.underlying22 hi hz0 hz1 .i64 .i64 n n n rfl rfl rfl rfl (by rw [hz2]; omega) (by unfold maxLen; omega) (by omega) ?_; intro w1 hown1 hgrow1)
  have hb1 : Below w.heap.size w w1 := (Below.refl _ _).grown hgrow1 (Nat.le_refl _) (fun k hk => by cases hk)
  have hs1 : w.heap.size < w1.heap.size := by
    rcases hown1.2 with ⟨h, _⟩ | ⟨g', cap', cur, h, hge, hg, _⟩
    · cases h
    · simp only [Value.slice.injEq, Option.some.injEq, Addr.mk.injEq, and_true] at h
      obtain ⟨⟨rfl, _⟩, _⟩ := h
      exact (Array.getElem?_eq_some_iff.1 hg).1
  clear q hi hz0 hz1 hz2
  go_loopw [4] (fun vi wr => ∃ (k : Nat) (xs : List Value), k ≤ n ∧ vi = .int .i64 k ∧ wr.ownsRow w.heap.size 5 1 (.slice (some ⟨w.heap.size, 0, none⟩) n n) n xs ∧ (∀ j (hj : j < l.length), j < k → xs[j]? = some (.int .u8 (l[j]).toNat)) ∧ Below w.heap.size w wr ∧ w.heap.size < wr.heap.size)
    (fun vi _ => n - (intOf vi).toNat)
  case atStart => exact ⟨0, _, by omega, rfl, hown1, fun j _ h => by omega, hb1, hs1⟩
  case round =>
    obtain ⟨k, xs, hk, rfl, hown, hxs, hb, hsz⟩ := hrel
    have HO := hid hown
    have hlen : xs.length = n * 1 := hown.1
    clear hown1 hgrow1 hb1 hs1
    by_cases hlt : k < n
    · rcases hx with hx | ⟨g, o, rfl, hcell⟩
      · omega
      · have hkl : k < l.length := by omega
        have hc1 : wr.cell? ⟨g, o + k, none⟩ = some (.int .u8 (l[k]).toNat) := cell_later hb (hcell k hkl)
        have hc2 : wr.cell? ⟨w.heap.size, k, none⟩ = some (xs[k]'(by omega)) := by rw [hown.cellAt k (by omega)]; simp
        have hf2 : wr.frozen? ⟨w.heap.size, k, none⟩ = false := hown.frozenAt k
        obtain ⟨bb, hbb⟩ : ∃ bb : Nat, (l[k]).toNat = bb := ⟨_, rfl⟩
        rw [hbb] at hc1
        have hst := hown.stored k (.int .u8 bb)
        have HS := hid hst
        have HL := hid hbb
        have HX := hid hxs
        have HB := hid hb
        generalize xs[k]'(by omega) = v0 at hc2
        clear hst hxs hb hown hcell hbb
        go_wp2
        go_roundw
        case rel =>
          refine ⟨k + 1, xs.set k (.int .u8 bb), by omega, by go_num, HS.out.1, fun j hj hjk => ?_, HB.out.trans ⟨HS.out.2.os, HS.out.2.tape, HS.out.2.output, HS.out.2.size, fun i hi => HS.out.2.block i (by omega) (by intro h; simp at h; omega)⟩, Nat.lt_of_lt_of_le hsz HS.out.2.size⟩
          by_cases hjk2 : j = k
          · subst hjk2
            rw [List.getElem?_set_self (by omega), HL.out]
          · rw [List.getElem?_set_ne (by omega)]
            exact HX.out j hj (by omega)
        case measure => simp [intOf]; omega
    · have HX : Hid (∀ j (hj : j < l.length), wr.cell? ⟨w.heap.size, j, none⟩ = some (.int .u8 (l[j]).toNat)) := by
        intro j hj
        rw [hown.cellAt j (by omega)]
        exact hxs j hj (by omega)
      have HB := hid hb
      clear hxs hown hb
      go_wp2
      go_ret
      exact ⟨rfl, HX.out, HB.out, hsz⟩
end Go.Proofs.Qxb6605944a
