import Derived.Test.Qxb6605944aRows
import Derived.Test.Qxb6605944aDec
import Derived.Test.Qxb6605944aPrem
import Derived.Test.Qxb6605944aSteps
import Derived.Test.Qxb6605944aClone
namespace Go.Proofs.Qxb6605944a
open Go.RowKit
set_option linter.unusedVariables false

theorem premise_any (records first last step count : Int) (v1 v2 : Value) (ps : List (Nat × Nat)) (w : World)
    (w0 : 1 ≤ records) (w0' : records ≤ 9223372036854775807) (hsm : Small ps) (hn : ps.length ≤ 65536) (hv : View w ps v1 v2) :
    Calls Try.prog 7 #[.int .i64 records, .int .i64 first, .int .i64 last, v1, v2, .int .i64 step, .int .i64 count] w
      (BoolPost w (Prem records first last ps step count)) := by
  by_cases hb : (1 ≤ first ∧ first ≤ 2305843009213693952) ∧ (0 ≤ step ∧ step ≤ 1073741824) ∧ 0 ≤ count ∧ count ≤ 2147483648
  · obtain ⟨⟨hf1, hf2⟩, ⟨hs1, hs2⟩, hc1, hc2⟩ := hb
    rcases hv with ⟨rfl, rfl, rfl⟩ | ⟨gs, gc, c1, c2, rfl, rfl, h3, h4⟩
    · exact premise_nil records first last step count w w0 w0' hf1 hf2 hs1 hs2 hc1 hc2
    · exact premise_some records first last step count gs gc c1 c2 ps w w0 w0' hsm hn hf1 hf2 hs1 hs2 hc1 hc2 h3 h4
  · rcases hv with ⟨rfl, rfl, rfl⟩ | ⟨gs, gc, c1, c2, rfl, rfl, h3, h4⟩
    · exact premise_bad records first last step count none none 0 0 0 0 [] w hb
    · exact premise_bad records first last step count _ _ _ c1 _ c2 ps w hb

theorem stepsBack_any (step count r : Int) (v1 v2 : Value) (ps : List (Nat × Nat)) (w : World)
    (hsm : Small ps) (hn : ps.length ≤ 65536) (h0 : 0 ≤ step) (h1 : 0 ≤ count) (h2 : 0 ≤ r) (hr : r ≤ 4611686018427387904)
    (hV : sb ps step.toNat count.toNat r.toNat ≤ 2305843009213693952) (hv : View w ps v1 v2) :
    Calls Try.prog 11 #[v1, v2, .int .i64 step, .int .i64 count, .int .i64 r] w
      fun e w' => e = .returned (.int .i64 (sb ps step.toNat count.toNat r.toNat : Nat)) ∧ w' = w := by
  rcases hv with ⟨rfl, rfl, rfl⟩ | ⟨gs, gc, c1, c2, rfl, rfl, h3, h4⟩
  · exact stepsBack_nil step count r w h0 h1 h2 hr hV
  · exact stepsBack_some step count r gs gc c1 c2 ps w hsm hn h0 h1 h2 hr hV h3 h4

theorem stepAt_any (step n : Int) (v1 v2 : Value) (ps : List (Nat × Nat)) (w : World)
    (hsm : Small ps) (hn : ps.length ≤ 65536) (h0 : 0 ≤ step) (h1 : 0 ≤ n) (hn2 : n ≤ 4611686018427387904) (hv : View w ps v1 v2) :
    Calls Try.prog 13 #[v1, v2, .int .i64 step, .int .i64 n] w
      fun e w' => e = .returned (.int .i64 (stepAt ps step.toNat n.toNat : Nat)) ∧ w' = w := by
  rcases hv with ⟨rfl, rfl, rfl⟩ | ⟨gs, gc, c1, c2, rfl, rfl, h3, h4⟩
  · exact stepAt_nil step n w h0
  · exact stepAt_some step n gs gc c1 c2 ps w hsm hn h0 h1 hn2 h3 h4

/-- The copy of the bytes: nil; or they lie at the head of a block. -/
def Runs (w : World) (sl : Value) (l : List UInt8) : Prop :=
  (sl = .slice none 0 0 ∧ l = []) ∨ ∃ g c, sl = .slice (some ⟨g, 0, none⟩) l.length c ∧ l.length ≤ c ∧ c ≤ 65536 ∧ ∀ j (hj : j < l.length), w.cell? ⟨g, j, none⟩ = some (.int .u8 (l[j]).toNat)

theorem Runs.later {w w' : World} {sl : Value} {l : List UInt8} (h : Runs w sl l) (hb : Below w.heap.size w w') : Runs w' sl l := by
  rcases h with h | ⟨g, c, h1, h2, h3, h4⟩
  · exact .inl h
  · exact .inr ⟨g, c, h1, h2, h3, fun j hj => cell_later hb (h4 j hj)⟩

def ClonePost (l : List UInt8) (w : World) (e : Ending) (w' : World) : Prop := ∃ sl, e = .returned sl ∧ Runs w' sl l ∧ Below w.heap.size w w'

theorem clone_any (a : Option Addr) (n c : Nat) (l : List UInt8) (w : World) (hl : l.length = n) (hn : n ≤ 65536) (h : Bytes w a l) (hnil : a = none → n = 0 ∧ c = 0) :
    Calls Try.prog 8 #[.slice a n c] w (ClonePost l w) := by
  cases a with
  | none =>
    obtain ⟨rfl, rfl⟩ := hnil rfl
    obtain rfl : l = [] := List.length_eq_zero_iff.1 hl
    refine (clone_nil w).mono ?_
    rintro e w' ⟨rfl, rfl⟩
    exact ⟨_, rfl, .inl ⟨rfl, rfl⟩, Below.refl _ _⟩
  | some x =>
    refine (clone_some x n c l w hl hn ?_).mono ?_
    · rcases h with rfl | ⟨g, o, hx, hc⟩
      · exact .inl (by simpa using hl.symm)
      · exact .inr ⟨g, o, by simpa using hx, hc⟩
    · rintro e w' ⟨rfl, hc, hb, _⟩
      subst hl
      exact ⟨_, rfl, .inr ⟨w.heap.size, _, rfl, Nat.le_refl _, hn, hc⟩, hb⟩

set_option maxHeartbeats 1000000 in
set_option maxRecDepth 100000 in
theorem new_slice (records first last step count : Int) (a : Option Addr) (n c : Nat) (w : World) :
    Calls Try.prog 9 #[.int .i64 records, .int .i64 first, .int .i64 last, .slice a n c, .int .i64 step, .int .i64 count] w
      fun e w' => e = .returned (.pointer (some ⟨w.heap.size, 0, none⟩)) ∧ w' = w.alloc (.cells #[.int .i64 records, .int .i64 first, .int .i64 last, .slice a n c, .int .i64 step, .int .i64 count] 39) := by
  go_enter Try.func9, Try.ntmps9
  go_wp2
  go_ret
  exact ⟨rfl, rfl⟩

/-- The fields of the index that line reads. -/
structure Idx (w : World) (b : Nat) (records first step : Int) (sl : Value) : Prop where
  k0 : w.cell? ⟨b, 0, none⟩ = some (.int .i64 records)
  k1 : w.cell? ⟨b, 1, none⟩ = some (.int .i64 first)
  k3 : w.cell? ⟨b, 3, none⟩ = some sl
  k4 : w.cell? ⟨b, 4, none⟩ = some (.int .i64 step)

def NewPost (records first step : Int) (sl : Value) (w : World) (e : Ending) (w' : World) : Prop :=
  ∃ b, e = .returned (.pointer (some ⟨b, 0, none⟩)) ∧ Idx w' b records first step sl ∧ Below w.heap.size w w'

theorem new_any (records first last step count : Int) (sl : Value) (l : List UInt8) (w w0 : World) (h : Runs w0 sl l) :
    Calls Try.prog 9 #[.int .i64 records, .int .i64 first, .int .i64 last, sl, .int .i64 step, .int .i64 count] w (NewPost records first step sl w) := by
  obtain ⟨a, n, c, rfl⟩ : ∃ a n c, sl = .slice a n c := by
    rcases h with ⟨h, _⟩ | ⟨g, c, h, _⟩
    · exact ⟨_, _, _, h⟩
    · exact ⟨_, _, _, h⟩
  refine (new_slice records first last step count a n c w).mono ?_
  rintro e w' ⟨rfl, rfl⟩
  refine ⟨_, rfl, ⟨?_, ?_, ?_, ?_⟩, (Below.refl _ _).alloc (Nat.le_refl _) _⟩ <;> simp

theorem line15 (records first step n : Int) (b : Nat) (sl : Value) (l : List UInt8) (ps : List (Nat × Nat)) (w : World)
    (hl : l.length ≤ 65536) (hsm : Small ps) (he : Enc ps l []) (h0 : 0 ≤ step) (h1 : 1 ≤ n) (h2 : n ≤ records) (hf : 1 ≤ first) (hr : records ≤ 4611686018427387904)
    (hV : first + (up ps step.toNat (n - 1).toNat : Nat) ≤ 4611686018427387904) (hi : Idx w b records first step sl) (hru : Runs w sl l) :
    Calls Try.prog 15 #[.pointer (some ⟨b, 0, none⟩), .int .i64 n] w
      fun e w' => e = .returned (.tuple #[.int .i64 (first + (up ps step.toNat (n - 1).toNat : Nat)), .bool true]) ∧ w' = w := by
  rcases hru with ⟨rfl, rfl⟩ | ⟨g, c, rfl, hlc, hc, hcell⟩
  · obtain rfl : ps = [] := by
      have := Enc.length _ _ _ he
      exact List.length_eq_zero_iff.1 (by simp only [List.length_nil] at this; omega)
    exact line_nil records first first step step n b w h0 h1 h2 hf hr hV hi.k0 hi.k1 hi.k3 hi.k4
  · exact line_some records first first step step n b g c l ps w hl hlc hc hsm he h0 h1 h2 hf hr hV hi.k0 hi.k1 hi.k3 hi.k4 hcell

set_option maxHeartbeats 1000000 in
set_option maxRecDepth 100000 in
theorem line_any (records first step n : Int) (b : Nat) (sl : Value) (l : List UInt8) (ps : List (Nat × Nat)) (w : World)
    (hl : l.length ≤ 65536) (hsm : Small ps) (he : Enc ps l []) (h0 : 0 ≤ step) (h1 : 1 ≤ n) (h2 : n ≤ records) (hf : 1 ≤ first) (hr : records ≤ 4611686018427387904)
    (hV : first + (up ps step.toNat (n - 1).toNat : Nat) ≤ 4611686018427387904) (hi : Idx w b records first step sl) (hru : Runs w sl l) :
    Calls Try.prog 10 #[.pointer (some ⟨b, 0, none⟩), .int .i64 n] w
      fun e w' => e = .returned (.tuple #[.int .i64 (first + (up ps step.toNat (n - 1).toNat : Nat)), .bool true]) ∧ w' = w := by
  have H := hid (line15 records first step n b sl l ps w hl hsm he h0 h1 h2 hf hr hV hi hru)
  generalize first + (up ps step.toNat (n - 1).toNat : Nat) = X at *
  clear hl hsm he h0 h1 h2 hf hr hV hi hru
  go_enter Try.func10, Try.ntmps10
  go_wp2_with fail
  refine H.out.mono ?_
  rintro e w1 ⟨rfl, rfl⟩
  go_wp2
  go_ret2
  exact ⟨rfl, rfl⟩

set_option maxHeartbeats 1000000 in
set_option maxRecDepth 100000 in
theorem line_none (records first step n : Int) (b : Nat) (sl : Value) (w : World) (h : n < 1 ∨ records < n) (hi : Idx w b records first step sl) :
    Calls Try.prog 10 #[.pointer (some ⟨b, 0, none⟩), .int .i64 n] w
      fun e w' => e = .returned (.tuple #[.int .i64 0, .bool false]) ∧ w' = w := by
  have H := hid (line_out records n b w h hi.k0)
  clear h hi
  go_enter Try.func10, Try.ntmps10
  go_wp2_with fail
  refine H.out.mono ?_
  rintro e w1 ⟨rfl, rfl⟩
  go_wp2
  go_ret2
  exact ⟨rfl, rfl⟩

set_option maxHeartbeats 1000000 in
theorem bytes5 (r f la st ct n : Int) (a : Option Addr) (m c : Nat) (w : World) (hm : m ≤ 1048576) :
    Calls Try.prog 5 #[.int .i64 r, .int .i64 f, .int .i64 la, .slice a m c, .int .i64 st, .int .i64 ct, .int .i64 n] w fun e w' => e = .returned (.bool true) ∧ w' = w := by
  go_enter Try.func5, Try.ntmps5
  go_wp2
  go_ret
  exact ⟨rfl, rfl⟩
set_option maxHeartbeats 1000000 in
theorem bytes5_no (r f la st ct n : Int) (a : Option Addr) (m c : Nat) (w : World) (hm : ¬ m ≤ 1048576) :
    Calls Try.prog 5 #[.int .i64 r, .int .i64 f, .int .i64 la, .slice a m c, .int .i64 st, .int .i64 ct, .int .i64 n] w fun e w' => e = .returned (.bool false) ∧ w' = w := by
  go_enter Try.func5, Try.ntmps5
  go_wp2
  go_ret
  exact ⟨rfl, rfl⟩
set_option maxHeartbeats 1000000 in
theorem bytes12 (r f la st ct n : Int) (a : Option Addr) (m c : Nat) (w : World) (hm : m ≤ 1048576) :
    Calls Try.prog 12 #[.int .i64 r, .int .i64 f, .int .i64 la, .slice a m c, .int .i64 st, .int .i64 ct, .int .i64 n] w fun e w' => e = .returned (.bool true) ∧ w' = w := by
  go_enter Try.func12, Try.ntmps12
  go_wp2
  go_ret
  exact ⟨rfl, rfl⟩
set_option maxHeartbeats 1000000 in
theorem bytes12_no (r f la st ct n : Int) (a : Option Addr) (m c : Nat) (w : World) (hm : ¬ m ≤ 1048576) :
    Calls Try.prog 12 #[.int .i64 r, .int .i64 f, .int .i64 la, .slice a m c, .int .i64 st, .int .i64 ct, .int .i64 n] w fun e w' => e = .returned (.bool false) ∧ w' = w := by
  go_enter Try.func12, Try.ntmps12
  go_wp2
  go_ret
  exact ⟨rfl, rfl⟩

end Go.Proofs.Qxb6605944a
