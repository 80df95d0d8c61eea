import Derived.Test.Qxb6608511aEq
/-
  The readers and the maker of a Term (14, 16 to 19).
-/
namespace Go.Proofs.Qxb6608511a
open Go.RowKit
set_option linter.unusedVariables false

set_option maxHeartbeats 1000000 in
theorem make_any (k : Int) (s : ByteArray) (n : Int) (a : Option Addr) (l c : Nat) (w : World) :
    Calls Try.prog 14 #[.int .u8 k, .string s, .int .i64 n, .slice a l c] w fun e w' => e = .returned (.agg #[.int .u8 k, .string s, .int .i64 n, .slice a l c]) ∧ Below w.heap.size w w' := by
  go_enter Try.func14, Try.ntmps14
  go_wp2
  exact bodyPost_ret (v := .agg #[.int .u8 k, .string s, .int .i64 n, .slice a l c]) (by simp [results, Try.results14, go_sem]) rfl ⟨rfl, bel_one w _⟩

set_option maxHeartbeats 1000000 in
theorem args_any (k : Int) (s : ByteArray) (n : Int) (a : Option Addr) (l c : Nat) (w : World) :
    Calls Try.prog 16 #[.agg #[.int .u8 k, .string s, .int .i64 n, .slice a l c]] w fun e w' => e = .returned (.slice a l c) ∧ Below w.heap.size w w' := by
  go_enter Try.func16, Try.ntmps16
  go_wp2
  go_ret
  exact ⟨rfl, bel_one w _⟩
set_option maxHeartbeats 1000000 in
theorem kind_any (k : Int) (s : ByteArray) (n : Int) (a : Option Addr) (l c : Nat) (w : World) (hk : 0 ≤ k) (hk2 : k ≤ 255) :
    Calls Try.prog 17 #[.agg #[.int .u8 k, .string s, .int .i64 n, .slice a l c]] w fun e w' => e = .returned (.int .u8 k) ∧ Below w.heap.size w w' := by
  go_enter Try.func17, Try.ntmps17
  go_wp2
  go_ret
  exact ⟨rfl, bel_one w _⟩
set_option maxHeartbeats 1000000 in
theorem text_any (k : Int) (s : ByteArray) (n : Int) (a : Option Addr) (l c : Nat) (w : World) :
    Calls Try.prog 18 #[.agg #[.int .u8 k, .string s, .int .i64 n, .slice a l c]] w fun e w' => e = .returned (.string s) ∧ Below w.heap.size w w' := by
  go_enter Try.func18, Try.ntmps18
  go_wp2
  go_ret
  exact ⟨rfl, bel_one w _⟩
set_option maxHeartbeats 1000000 in
theorem num_any (k : Int) (s : ByteArray) (n : Int) (a : Option Addr) (l c : Nat) (w : World) :
    Calls Try.prog 19 #[.agg #[.int .u8 k, .string s, .int .i64 n, .slice a l c]] w fun e w' => e = .returned (.int .i64 n) ∧ Below w.heap.size w w' := by
  go_enter Try.func19, Try.ntmps19
  go_wp2
  go_ret
  exact ⟨rfl, bel_one w _⟩

end Go.Proofs.Qxb6608511a
