import Derived.Test.Qxb6608511aTerms
import Derived.Deep.RegionHeld3
import Derived.Deep.RegionWith
/-
  fromTerm (11): a fresh tree that reads as the given one.
-/
namespace Go.Proofs.Qxb6608511a
open Go.RowKit
set_option linter.unusedVariables false

theorem info24 : (Try.prog.info? 24).map (fun i => (i.zero, i.size, i.bytes)) = some (some (.agg #[.int .u8 0, .string ⟨#[]⟩, .int .i64 0, .slice none 0 0]), 4, 56) := by kernel_rfl
theorem make24 (w : World) (n : Nat) (h : n ≤ 2932031007402) : (Instr.makeSlice 22 (.int .i64 n) (.int .i64 n)).run Try.prog w = .ok (.slice (some ⟨w.heap.size, 0, none⟩) n n) (w.alloc (.cells (zeros n) 24)) := by
  cases hi : Try.prog.info? 24 with
  | none => have := info24; rw [hi] at this; cases this
  | some i =>
    have e := info24
    rw [hi] at e
    simp only [Option.map_some, Option.some.injEq, Prod.mk.injEq] at e
    have := run_make w 22 24 i _ Try.underlying22 hi e.1 .i64 .i64 n n (by omega) (Int.le_refl _) (by rw [e.2.2]; omega) (by omega)
    rw [this, e.2.1]
    rfl
theorem part_zero24 (w : World) (n : Nat) {M : Nat} (hM : w.heap.size = M) (P : Nat → Prop) (d : Nat) (f : Nat → Tm) : Part (w.alloc (.cells (zeros n) 24)) M n 0 P d f := by
  subst hM
  refine ⟨fun j hj => absurd hj (Nat.not_lt_zero _), fun k hk => ?_, fun k => by simp [go_sem]⟩
  have hs : k < (zeros n).size := by unfold zeros; rw [size_madeCells]; exact hk
  exact ⟨(zeros n)[k], by simp [go_sem, hs]⟩



/-- What fromTerm's own two boxes hold. -/
structure Box (w : World) (h : Nat) (k : Int) (s : ByteArray) (n : Int) (a : Option Addr) (l c : Nat) : Prop where
  lt : h + 1 < w.heap.size
  g0 : w.cell? ⟨h, 0, none⟩ = some (.int .u8 k)
  g1 : w.cell? ⟨h, 1, none⟩ = some (.string s)
  g2 : w.cell? ⟨h, 2, none⟩ = some (.int .i64 n)
  g3 : w.cell? ⟨h, 3, none⟩ = some (.slice a l c)
  r0 : w.cell? ⟨h + 1, 0, none⟩ = some (.int .u8 0)
  r1 : w.cell? ⟨h + 1, 1, none⟩ = some (.string ⟨#[]⟩)
  r2 : w.cell? ⟨h + 1, 2, none⟩ = some (.int .i64 0)
  r3 : w.cell? ⟨h + 1, 3, none⟩ = some (.slice none 0 0)
  f0 : w.frozen? ⟨h + 1, 0, none⟩ = false
  f1 : w.frozen? ⟨h + 1, 1, none⟩ = false
  f2 : w.frozen? ⟨h + 1, 2, none⟩ = false
  f3 : w.frozen? ⟨h + 1, 3, none⟩ = false
theorem Box.keep {w w' : World} {h : Nat} {k : Int} {s : ByteArray} {n : Int} {a : Option Addr} {l c B : Nat} (b : Box w h k s n a l c) (hb : Below B w w') (hB : h + 2 ≤ B) : Box w' h k s n a l c := by
  have z0 : h < B := by omega
  have z1 : h + 1 < B := by omega
  exact ⟨Nat.lt_of_lt_of_le b.lt hb.size, (hb.cell (p := ⟨h, 0, none⟩) z0).trans b.g0, (hb.cell (p := ⟨h, 1, none⟩) z0).trans b.g1, (hb.cell (p := ⟨h, 2, none⟩) z0).trans b.g2, (hb.cell (p := ⟨h, 3, none⟩) z0).trans b.g3,
    (hb.cell (p := ⟨h + 1, 0, none⟩) z1).trans b.r0, (hb.cell (p := ⟨h + 1, 1, none⟩) z1).trans b.r1, (hb.cell (p := ⟨h + 1, 2, none⟩) z1).trans b.r2, (hb.cell (p := ⟨h + 1, 3, none⟩) z1).trans b.r3,
    (hb.frozen (p := ⟨h + 1, 0, none⟩) z1).trans b.f0, (hb.frozen (p := ⟨h + 1, 1, none⟩) z1).trans b.f1, (hb.frozen (p := ⟨h + 1, 2, none⟩) z1).trans b.f2, (hb.frozen (p := ⟨h + 1, 3, none⟩) z1).trans b.f3⟩
theorem Box.fst {w : World} {k : Int} {s : ByteArray} {n : Int} {a : Option Addr} {l c : Nat} : Box ((w.alloc (.cells #[.int .u8 k, .string s, .int .i64 n, .slice a l c] 32)).alloc (.cells #[.int .u8 0, .string ⟨#[]⟩, .int .i64 0, .slice none 0 0] 24)) w.heap.size k s n a l c := by
  constructor <;> simp [go_sem]
theorem Box.step {w w' : World} {h : Nat} {k : Int} {s : ByteArray} {n : Int} {a : Option Addr} {l c : Nat} (b : Box w h k s n a l c) (hb : Below w.heap.size w w') : Box w' h k s n a l c := b.keep hb b.lt
theorem Box.drew {w : World} {h : Nat} {k : Int} {s : ByteArray} {n : Int} {a : Option Addr} {l c : Nat} (b : Box w h k s n a l c) : Box w.drew h k s n a l c := b.step (Below.refl _ _).drew

set_option maxHeartbeats 4000000 in
set_option maxRecDepth 100000 in
theorem from_none (d : Nat) (t : Tm) (c : Nat) (w : World) (HN : Hid (t.ts = [])) (h2 : t.ts.length ≤ 2932031007402) (h3 : 0 ≤ t.k) (h4 : t.k ≤ 255) (h5 : -9223372036854775808 ≤ t.n) (h6 : t.n ≤ 9223372036854775807) (h7 : t.s.size ≤ 140737488355328) : Calls Try.prog 11 #[nodeV t none c] w (Fresh w (d + 1) t) := by
  have q28 : ∀ (w : World) (a : Option Addr) (n c : Nat), (binOp .neq 28 (.slice a n c) (.slice none 0 0)).run Try.prog w = .ok (.bool !a.isNone) w := fun w a n c => run_neq_slice_nil_any w _ _ a n c 0 0 Try.underlying28
  have CA := hid (args_any t.k t.s t.n none t.ts.length c)
  have CK := hid (fun w => kind_any t.k t.s t.n none t.ts.length c w h3 h4)
  have CT := hid (text_any t.k t.s t.n none t.ts.length c)
  have CN := hid (num_any t.k t.s t.n none t.ts.length c)
  unfold nodeV
  go_enter Try.func11, Try.ntmps11
  go_wp2_with fail
  refine (CA.out _).mono ?_
  rintro e wb ⟨rfl, hwb⟩
  have HW := hid hwb
  have BX := hid (Box.fst.keep hwb (by simp))
  have g0 := BX.out.g0
  have g1 := BX.out.g1
  have g2 := BX.out.g2
  have g3 := BX.out.g3
  clear CA hwb
  go_wp2_with fail
  go_region_with (first | (go_at_call 17; refine (CK.out _).mono ?_; rintro e wa ⟨rfl, hwa⟩; have BX1 := hid (BX.out.drew.step hwa); have HW1 := hid hwa; have g0a := BX1.out.g0; have g1a := BX1.out.g1; have g2a := BX1.out.g2; have g3a := BX1.out.g3; clear hwa) | (go_at_call 18; refine (CT.out _).mono ?_; rintro e wa2 ⟨rfl, hwa⟩; have BX2 := hid (BX1.out.step hwa); have HW2 := hid hwa; have g0b := BX2.out.g0; have g1b := BX2.out.g1; have g2b := BX2.out.g2; have g3b := BX2.out.g3; clear hwa g0a g1a g2a g3a) | (go_at_call 19; refine (CN.out _).mono ?_; rintro e wa3 ⟨rfl, hwa⟩; have BX3 := hid (BX2.out.step hwa); have HW3 := hid hwa; obtain ⟨z1c, g0c, g1c, g2c, g3c, r0c, r1c, r2c, r3c, e0c, e1c, e2c, e3c⟩ := BX3.out; clear hwa g0b g1b g2b g3b g0c g1c g2c g3c))
  all_goals
    go_wp2
    refine bodyPost_ret (v := nodeV t none 0) (by simp [results, Try.results11, go_sem, nodeV, r0c, r1c, r2c, r3c, HN.out]) rfl ⟨none, 0, rfl, ⟨none, 0, rfl, by rw [HN.out]; exact Nat.le_refl _, by unfold big; exact h2, h3, h4, h5, h6, h7, .inl HN.out⟩, ?_⟩
    exact (bel_two w _ _).trans ((HW.out.mono (by simp; omega)).trans (((bel_drew HW1.out).mono (by have := BX.out.lt; omega)).trans ((HW2.out.mono (by have := BX1.out.lt; omega)).trans ((HW3.out.mono (by have := BX2.out.lt; omega)).trans (put4_below (Below.refl _ _) (by omega))))))

end Go.Proofs.Qxb6608511a
