import Derived.Test.Qxb6608625aCopy
/-
  Small plain laws on the done front; trim from the start, trim again.
-/
namespace Go.Proofs.Qxb6608625a
open Go.RowKit
set_option linter.unusedVariables false

theorem fr_front : ∀ (qs : List Rq) (j : Nat) (hj : j < qs.length), j < fr qs → (qs[j]).d = true
  | [], j, hj, _ => by simp at hj
  | q :: qs, j, hj, h => by
    cases hd : q.d with
    | false => rw [fr_no q qs hd] at h; omega
    | true =>
      rw [fr_yes q qs hd] at h
      cases j with
      | zero => simpa using hd
      | succ j => simpa using fr_front qs j (by simpa using hj) (by omega)
theorem fr_stop : ∀ (qs : List Rq) (h : fr qs < qs.length), (qs[fr qs]).d = false
  | [], h => by simp at h
  | q :: qs, h => by
    cases hd : q.d with
    | false => simp only [fr_no q qs hd]; simpa using hd
    | true =>
      have e := fr_yes q qs hd
      simp only [e]
      rw [e] at h
      simpa using fr_stop qs (by simpa using h)
theorem fr_again (qs : List Rq) : fr (qs.drop (fr qs)) = 0 := by
  by_cases h : fr qs < qs.length
  · rw [List.drop_eq_getElem_cons h]
    exact fr_no _ _ (fr_stop qs h)
  · rw [List.drop_eq_nil_of_le (by omega)]; rfl

/-- Trim from the start. -/
theorem trim0 (w : World) (b r : Nat) (qs : List Rq) (base arr ov lost : Int) (h : Ord w b r qs 0 base arr ov lost) (hn : qs.length ≤ 1048576) (ha : (cntA qs : Int) = arr) (hbase : -9223372036854775808 ≤ base ∧ base ≤ 9223372036854775807) :
    Calls Try.prog 8 #[.pointer (some ⟨b, 0, none⟩)] w fun e w' => e = .returned (.tuple #[]) ∧ Ord w' b r qs (fr qs) (wrap64 (base + (fr qs : Nat))) (arr - (cntA (qs.take (fr qs)) : Nat)) ov lost ∧ Same b w w' := by
  have hle := cntA_le qs
  have := zztrim_any w b r qs 0 base arr ov lost h hn (by simp; omega) (by omega) hbase
  simpa using this

theorem wrap_in (x : Int) : -9223372036854775808 ≤ wrap64 x ∧ wrap64 x ≤ 9223372036854775807 := by unfold wrap64; omega
theorem wrap_wrap (x : Int) : wrap64 (wrap64 x + ((0 : Nat) : Int)) = wrap64 x := by unfold wrap64; omega

/-- Trim again: nothing turns. -/
theorem trim1 (w : World) (b r : Nat) (qs : List Rq) (base arr ov lost : Int) (h : Ord w b r qs (fr qs) (wrap64 base) arr ov lost) (hn : qs.length ≤ 1048576) (ha : (cntA (qs.drop (fr qs)) : Int) ≤ arr) (ha2 : arr ≤ 1048576) :
    Calls Try.prog 8 #[.pointer (some ⟨b, 0, none⟩)] w fun e w' => e = .returned (.tuple #[]) ∧ Ord w' b r qs (fr qs) (wrap64 base) arr ov lost ∧ Same b w w' := by
  have := zztrim_any w b r qs (fr qs) (wrap64 base) arr ov lost h hn ha ha2 (wrap_in _)
  rw [fr_again, wrap_wrap] at this
  simpa [cntA] using this

theorem cnt_split (qs : List Rq) (k : Nat) : cntA (qs.take k) + cntA (qs.drop k) = cntA qs := by rw [← cntA_append, List.take_append_drop]

/-- Behind the two blocks of an order: nothing below the first of them has turned. -/
theorem Same.keeps {b B : Nat} {w0 w w' : World} (h : Below B w0 w) (hs : Same b w w') (hB : B ≤ b) : Below B w0 w' := h.trans (hs.below.mono hB)
theorem Six.same {b : Nat} {w w' : World} {v0 v1 v2 v3 v4 v5 : Value} {qs : List Rq} {w6 : World} (h : Six w6 v0 v1 v2 v3 v4 v5 qs) (hb : Below w6.heap.size w6 w) (hs : Same b w w') (hB : w6.heap.size ≤ b) : Six w' v0 v1 v2 v3 v4 v5 qs :=
  h.later (Same.keeps hb hs hB)

end Go.Proofs.Qxb6608625a
