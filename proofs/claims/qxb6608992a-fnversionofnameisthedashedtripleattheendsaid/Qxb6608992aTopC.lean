import Derived.Test.Qxb6608992aVon
import Derived.WalkLawsBesides
import Derived.Lib.SliceRun
import Derived.ChangeKeysEq
/-
  ZZversionOfName (16), zzBytes (14) and the law's top (5).
-/
namespace Go.Proofs.Qxb6608992a
open Go.RowKit
set_option linter.unusedVariables false

set_option maxHeartbeats 1000000 in
theorem bytes14 (a : ByteArray) (w : World) (h : a.size ≤ 1048576) :
    Calls Try.prog 14 #[.string a] w fun e w' => e = .returned (.bool true) ∧ w' = w := by
  go_enter Try.func14, Try.ntmps14
  go_wp2
  go_ret
  exact ⟨rfl, rfl⟩
set_option maxHeartbeats 1000000 in
theorem bytes14_no (a : ByteArray) (w : World) (ha : a.size ≤ 9223372036854775807) (h : ¬ a.size ≤ 1048576) :
    Calls Try.prog 14 #[.string a] w fun e w' => e = .returned (.bool false) ∧ w' = w := by
  go_enter Try.func14, Try.ntmps14
  go_wp2
  go_ret
  exact ⟨rfl, rfl⟩

/-- The three strings of such an array. -/
def tri0 : Option Tri → ByteArray × ByteArray × ByteArray × Bool
  | some (a, b, c) => (by' a, by' b, by' c, true)
  | none => (⟨#[]⟩, ⟨#[]⟩, ⟨#[]⟩, false)
theorem triV_eq (o : Option Tri) : triV o = .tuple #[.agg #[.string (tri0 o).1, .string (tri0 o).2.1, .string (tri0 o).2.2.1], .bool (tri0 o).2.2.2] := by
  cases o with
  | none => rfl
  | some r => obtain ⟨a, b, c⟩ := r; rfl
theorem verV_eq (o : Option Tri) : verV o = .tuple #[.agg #[.string (tri0 o).1, .string (tri0 o).2.1, .string (tri0 o).2.2.1, .slice none 0 0, .string ⟨#[]⟩], .bool (tri0 o).2.2.2] := by
  cases o with
  | none => rfl
  | some r => obtain ⟨a, b, c⟩ := r; rfl

set_option maxHeartbeats 1000000 in
theorem top5_no (a : ByteArray) (w : World) (ha : a.size ≤ 9223372036854775807) (h : ¬ a.size ≤ 1048576) :
    Calls Try.prog 5 #[.string a] w fun e w' => e = .returned (.bool true) ∧ Below w.heap.size w w' := by
  have C := hid (bytes14_no a w ha h)
  go_enter Try.func5, Try.ntmps5
  go_wp2_with fail
  refine C.out.mono ?_
  rintro e wa ⟨rfl, hwa⟩
  rw [hwa]; clear hwa wa
  go_wp2
  go_ret
  exact ⟨rfl, Below.refl _ _⟩

theorem zz_bel {w wa : World} {o o' : Obj} {x y z : Value} (h : Below (w.alloc o).heap.size (w.alloc o) wa) : Below w.heap.size w ((((wa.setCell ⟨w.heap.size, 0, none⟩ x).setCell ⟨w.heap.size, 1, none⟩ y).setCell ⟨w.heap.size, 2, none⟩ z).alloc o').drew := by
  have h1 : Below w.heap.size w wa := (Below.alloc (Below.refl _ _) (Nat.le_refl _) _).trans (h.mono (by simp))
  exact ((bel_three h1 (Nat.le_refl _)).alloc (by have := h1.size; simp; omega) _).drew
theorem top_bel {w wa wb : World} {o o' : Obj} (h : Below w.heap.size w wa) (h2 : Below (wa.alloc o).heap.size (wa.alloc o) wb) : Below w.heap.size w (wb.alloc o') := by
  have hs := h.size
  have h1 : Below w.heap.size w wb := (h.alloc hs o).trans (h2.mono (by simp; omega))
  exact h1.alloc h1.size _

set_option maxHeartbeats 4000000 in
set_option maxRecDepth 100000 in
theorem zz_any (l : List UInt8) (w : World) (hs : l.length ≤ 1048576) :
    Calls Try.prog 16 #[.string (by' l)] w fun e w' => e = .returned (.tuple #[.agg #[.string (tri0 (von l)).1, .string (tri0 (von l)).2.1, .string (tri0 (von l)).2.2.1], .slice none 0 0, .string ⟨#[]⟩, .bool (tri0 (von l)).2.2.2]) ∧ Below w.heap.size w w' := by
  obtain ⟨⟨a, b, c, k⟩, ht⟩ : ∃ t, tri0 (von l) = t := ⟨_, rfl⟩
  have C := hid (von_any l (w.alloc (.cells #[.string ⟨#[]⟩, .string ⟨#[]⟩, .string ⟨#[]⟩] 26)) hs)
  rw [verV_eq, ht] at C
  rw [ht]
  clear ht
  go_enter Try.func16, Try.ntmps16
  go_wp2_with fail
  refine C.out.mono ?_
  rintro e wa ⟨rfl, hwa⟩
  clear C
  have hsz : w.heap.size + 1 ≤ wa.heap.size := by have := hwa.size; simpa using this
  have g0 := hwa.cell (p := ⟨w.heap.size, 0, none⟩) (by simp)
  have g1 := hwa.cell (p := ⟨w.heap.size, 1, none⟩) (by simp)
  have g2 := hwa.cell (p := ⟨w.heap.size, 2, none⟩) (by simp)
  have e0 := hwa.frozen (p := ⟨w.heap.size, 0, none⟩) (by simp)
  have e1 := hwa.frozen (p := ⟨w.heap.size, 1, none⟩) (by simp)
  have e2 := hwa.frozen (p := ⟨w.heap.size, 2, none⟩) (by simp)
  simp [go_sem] at g0 g1 g2 e0 e1 e2
  have hlt' : w.heap.size < wa.heap.size := hsz
  have hne : w.heap.size ≠ wa.heap.size := Nat.ne_of_lt hlt'
  have HW := hid hwa
  clear hwa
  go_wp2
  go_region
  go_wp2
  exact bodyPost_ret (v := .tuple #[.agg #[.string a, .string b, .string c], .slice none 0 0, .string ⟨#[]⟩, .bool k]) (by simp [results, Try.results16, go_sem, g0, g1, g2, hlt']) rfl ⟨rfl, zz_bel HW.out⟩

theorem info9 : ∃ i, Try.prog.info? 9 = some i := by
  cases h : Try.prog.info? 9 with
  | some i => exact ⟨i, rfl⟩
  | none =>
    have : (Try.prog.info? 9).isSome = true := by kernel_rfl
    rw [h] at this; cases this
theorem cells9 : Try.prog.cellsOf 9 = 1 := by kernel_rfl
theorem part0 (w : World) (a b c : ByteArray) : (part 9 #[.string a, .string b, .string c] 0).run Try.prog w = .ok (.string a) w := by kernel_rfl
theorem part1 (w : World) (a b c : ByteArray) : (part 9 #[.string a, .string b, .string c] 1).run Try.prog w = .ok (.string b) w := by kernel_rfl
theorem part2 (w : World) (a b c : ByteArray) : (part 9 #[.string a, .string b, .string c] 2).run Try.prog w = .ok (.string c) w := by kernel_rfl
theorem eq9 (w : World) (a : ByteArray) : (Op.equalIn 9999 9 (.string a) (.string a)).run Try.prog w = .ok true w := by
  rw [run_equalIn_string w 9998 9 a a Try.underlying9]; simp
theorem eql26 (w : World) (a b c : ByteArray) : (binOp .eql 26 (.agg #[.string a, .string b, .string c]) (.agg #[.string a, .string b, .string c])).run Try.prog w = .ok (.bool true) w := by
  obtain ⟨i, hi⟩ := info9
  rw [run_eql_struct, run_equalIn_array w 9999 _ _ Try.underlying26 hi, cells9]
  rw [show List.range 3 = [0, 1, 2] from rfl]
  simp only [Op.eqItems, Sem.run_bind, Nat.mul_one, part0, part1, part2, eq9, Result.andThen_ok, Bool.not_true, Bool.false_eq_true, if_false, Sem.run_pure]

set_option maxHeartbeats 4000000 in
set_option maxRecDepth 100000 in
theorem top5_in (s : ByteArray) (w : World) (h : s.size ≤ 1048576) :
    Calls Try.prog 5 #[.string s] w fun e w' => e = .returned (.bool true) ∧ Below w.heap.size w w' := by
  have C14 := hid (bytes14 s w h)
  have C15 := hid (model_any s w h)
  have hl : s.data.toList.length = s.size := by simp
  rw [mv_von s.data.toList.length s.data.toList (Nat.le_refl _)] at C15
  have C16 : Hid (∀ w, Calls Try.prog 16 #[.string s] w fun e w' => e = .returned (.tuple #[.agg #[.string (tri0 (von s.data.toList)).1, .string (tri0 (von s.data.toList)).2.1, .string (tri0 (von s.data.toList)).2.2.1], .slice none 0 0, .string ⟨#[]⟩, .bool (tri0 (von s.data.toList)).2.2.2]) ∧ Below w.heap.size w w') := by
    intro w
    have := zz_any s.data.toList w (by omega)
    rw [← by_of] at this
    exact this
  rw [triV_eq] at C15
  obtain ⟨⟨a, b, c, k⟩, ht⟩ : ∃ t, tri0 (von s.data.toList) = t := ⟨_, rfl⟩
  rw [ht] at C15 C16
  clear ht hl
  have q26 := eql26
  have q29 : ∀ w : World, (binOp .eql 29 (.slice none 0 0) (.slice none 0 0)).run Try.prog w = .ok (.bool true) w := fun w => Go.Lib.run_eql_slice_nil w 29 _ none 0 0 0 0 Try.underlying29
  go_enter Try.func5, Try.ntmps5
  go_wp2_with fail
  refine C14.out.mono ?_
  rintro e wa ⟨rfl, hwa⟩
  rw [hwa]; clear hwa wa
  go_wp2_with fail
  refine C15.out.mono ?_
  rintro e wa ⟨rfl, hwa⟩
  have HA := hid hwa
  clear hwa C15
  go_wp2_with fail
  refine (C16.out _).mono ?_
  rintro e wb ⟨rfl, hwb⟩
  have hsz : wa.heap.size + 1 ≤ wb.heap.size := by have := hwb.size; simpa using this
  have g0 := hwb.cell (p := ⟨wa.heap.size, 0, none⟩) (by simp)
  have g1 := hwb.cell (p := ⟨wa.heap.size, 1, none⟩) (by simp)
  have g2 := hwb.cell (p := ⟨wa.heap.size, 2, none⟩) (by simp)
  simp [go_sem] at g0 g1 g2
  have hlt' : wa.heap.size < wb.heap.size := hsz
  have hne : wa.heap.size ≠ wb.heap.size := Nat.ne_of_lt hlt'
  have HB := hid hwb
  clear hwb C16
  go_wp2
  go_ret
  exact ⟨rfl, top_bel HA.out HB.out⟩

theorem top5 (s : ByteArray) (w : World) (ha : s.size ≤ maxLen) :
    Calls Try.prog 5 #[.string s] w fun e w' => e = .returned (.bool true) ∧ Below w.heap.size w w' := by
  by_cases h : s.size ≤ 1048576
  · exact top5_in s w h
  · exact top5_no s w (by unfold maxLen at ha; omega) h

end Go.Proofs.Qxb6608992a
