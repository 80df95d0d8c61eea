import Derived.Test.Qxb6608625aLaw
/-
  zzOrdersAgree (13): it says yes of two orders that hold the same requests and the same counts.
-/
namespace Go.Proofs.Qxb6608625a
open Go.RowKit
set_option linter.unusedVariables false

theorem drop_same {q1 q2 : List Rq} {k1 k2 : Nat} (h : q1.drop k1 = q2.drop k2) (j : Nat) (h1 : k1 + j < q1.length) (h2 : k2 + j < q2.length) : q1[k1 + j] = q2[k2 + j] := by
  have e1 : (q1.drop k1)[j]'(by simp; omega) = q1[k1 + j] := by simp
  have e2 : (q2.drop k2)[j]'(by simp; omega) = q2[k2 + j] := by simp
  rw [← e1, ← e2]
  simp only [h]

set_option maxHeartbeats 4000000 in
set_option maxRecDepth 100000 in
theorem agree_any (w : World) (b1 r1 k1 b2 r2 k2 : Nat) (q1 q2 : List Rq) (base arr ov lost : Int) (o1 : Ord w b1 r1 q1 k1 base arr ov lost) (o2 : Ord w b2 r2 q2 k2 base arr ov lost)
    (hn1 : q1.length ≤ 1048576) (hn2 : q2.length ≤ 1048576) (hr1 : r1 < w.heap.size) (hr2 : r2 < w.heap.size) (hd : q1.drop k1 = q2.drop k2) :
    Calls Try.prog 13 #[.pointer (some ⟨b1, 0, none⟩), .pointer (some ⟨b2, 0, none⟩)] w
      fun e w' => e = .returned (.bool true) ∧ Below w.heap.size w w' := by
  have l1 := o1.k_le
  have l2 := o2.k_le
  have hb1 := o1.lt
  have hb2 := o2.lt
  have hlen : q1.length - k1 = q2.length - k2 := by
    have := congrArg List.length hd
    simpa using this
  obtain ⟨M, hM1⟩ : ∃ M, q1.length - k1 = M := ⟨_, rfl⟩
  have hM2 : q2.length - k2 = M := by omega
  have hMn : M ≤ 1048576 := by omega
  have C1 := hid (len_any w b1 r1 q1 k1 base arr ov lost o1)
  have C2 := hid (len_any w b2 r2 q2 k2 base arr ov lost o2)
  rw [hM1] at C1
  rw [hM2] at C2
  have C3 := hid (counts_any w b1 r1 q1 k1 base arr ov lost o1)
  have C4 := fun q => hid (counts_any (w.drewN q) b2 r2 q2 k2 base arr ov lost (o2.kept rfl rfl))
  have H1 := hid o1
  have H2 := hid o2
  have HD := hid hd
  have HM1 := hid hM1
  have HM2 := hid hM2
  clear o1 o2 hlen hM1 hM2 hd
  go_enter Try.func13, Try.ntmps13
  go_wp2_with fail
  refine C1.out.mono ?_
  rintro e wa ⟨rfl, hwa⟩
  rw [hwa]; clear hwa wa C1
  go_wp2_with fail
  refine C2.out.mono ?_
  rintro e wa ⟨rfl, hwa⟩
  rw [hwa]; clear hwa wa C2
  go_wp2_with fail
  refine C3.out.mono ?_
  rintro e wa ⟨rfl, q, hwa⟩
  rw [hwa]; clear hwa wa C3
  go_wp2_with fail
  refine (C4 q).out.mono ?_
  rintro e wa ⟨rfl, q', hwa⟩
  rw [hwa]; clear hwa wa C4
  go_wp2_with fail
  go_loopw [14] (fun vj wr => ∃ j : Nat, j ≤ M ∧ vj = .int .i64 j ∧ Below w.heap.size w wr) (fun vj _ => M - (intOf vj).toNat)
  case atStart => exact ⟨0, by omega, rfl, (Below.refl _ _).trans ⟨rfl, rfl, rfl, Nat.le_refl _, fun _ _ => rfl⟩⟩
  case round =>
    obtain ⟨j, hj, rfl, hb⟩ := hrel
    by_cases hlt : j < M
    · have hj1 : k1 + j < q1.length := by have := HM1.out; omega
      have hj2 : k2 + j < q2.length := by have := HM2.out; omega
      have R1 := hid (req_any wr b1 r1 q1 k1 j j rfl base arr ov lost (H1.out.kept (hb.block b1 hb1) (hb.block r1 hr1)) hj1 hn1)
      have R2 : Hid (∀ wx, Below w.heap.size w wx → Calls Try.prog 15 #[.pointer (some ⟨b2, 0, none⟩), .int .i64 j] wx fun e w' => e = .returned (.tuple #[.int .u32 (q1[k1 + j]).i, .int .u32 (q1[k1 + j]).b, .int .i64 (q1[k1 + j]).h, .bool (q1[k1 + j]).d, .bool (q1[k1 + j]).a, .bool (q1[k1 + j]).l]) ∧ Below wx.heap.size wx w') := by
        intro wx hx
        have := req_any wx b2 r2 q2 k2 j j rfl base arr ov lost (H2.out.kept (hx.block b2 hb2) (hx.block r2 hr2)) hj2 hn2
        rw [← drop_same HD.out j hj1 hj2] at this
        exact this
      generalize q1[k1 + j] = p at *
      have HB := hid hb
      clear hb
      go_wp2_with fail
      refine R1.out.mono ?_
      rintro e w2 ⟨rfl, hb2'⟩
      have HB2 := hid (HB.out.trans (hb2'.mono HB.out.size))
      clear hb2'
      go_wp2_with fail
      refine (R2.out w2 HB2.out).mono ?_
      rintro e w3 ⟨rfl, hb3'⟩
      have HB3 := hid (HB2.out.trans (hb3'.mono HB2.out.size))
      clear hb3' R1 R2
      go_wp2
      go_roundw
      case rel => exact ⟨j + 1, by omega, by go_num, HB3.out⟩
      case measure => simp [intOf]; omega
    · have HB := hid hb
      clear hb
      go_wp2
      go_ret
      exact ⟨rfl, HB.out⟩

theorem fr_drop : ∀ (qs : List Rq) (c : Nat), c ≤ qs.length → (∀ j (hj : j < qs.length), j < c → (qs[j]).d = true) → fr qs = c + fr (qs.drop c)
  | qs, 0, _, _ => by simp
  | [], c + 1, h, _ => by simp at h
  | q :: qs, c + 1, h, hd => by
    have h0 : q.d = true := hd 0 (by simp) (by omega)
    have ih := fr_drop qs c (by simpa using h) (fun j hj hjc => hd (j + 1) (by simpa using hj) (by omega))
    rw [fr_yes q qs h0, ih]
    simp
    omega

theorem take_two (qs : List Rq) (c k : Nat) : qs.take (c + k) = qs.take c ++ (qs.drop c).take k := List.take_add

/-- A cut of a copied row. -/
theorem Row.cutEq {w : World} {a : Option Addr} {n : Nat} {xs : List Value} (h : Row w (.slice a n n) xs) (hx : xs.length = n) : Row w (.slice a (n - n) (n - n)) (xs.drop n) := by
  refine .inl ⟨List.drop_eq_nil_of_le (by omega), a, 0, ?_⟩
  rw [Nat.sub_self]
theorem Row.cutNe {w : World} {a : Option Addr} {n c : Nat} {xs : List Value} (h : Row w (.slice a n n) xs) (hx : xs.length = n) (hc : c < n) : Row w (.slice (a.map (fun x => x.add c)) (n - c) (n - c)) (xs.drop c) := by
  rcases h with ⟨rfl, _⟩ | ⟨g, o, c', h, _, hcell⟩
  · simp at hx; omega
  · simp only [Value.slice.injEq] at h
    obtain ⟨rfl, _, _⟩ := h
    refine .inr ⟨g, o + c, n - c, ?_, by simp; omega, fun j hj => ?_⟩
    · rw [List.length_drop, hx]
      simp only [Option.map_some]
      rw [Go.WideShapes.add_plain]
    · have := hcell (c + j) (by simp at hj; omega)
      rw [Nat.add_assoc, this]
      simp

end Go.Proofs.Qxb6608625a
