import Derived.Test.Qxb6608625aAgree
import Derived.Deep.RegionHeld3
namespace Go.Proofs.Qxb6608625a
open Go.RowKit
set_option linter.unusedVariables false

/-- An element of a copied row. -/
theorem Row.at {w : World} {p : Option Addr} {qs : List Rq} {f : Rq → Value} (h : Row w (.slice p qs.length qs.length) (qs.map f)) (j : Nat) (hj : j < qs.length) : ∃ g o, p = some ⟨g, o, none⟩ ∧ w.cell? ⟨g, o + j, none⟩ = some (f qs[j]) := by
  rcases h.opn with ⟨rfl, _⟩ | ⟨g, o, c, e, hc⟩
  · simp at hj
  · simp only [Value.slice.injEq] at e
    exact ⟨g, o, e.1, hc j hj⟩

theorem Six.cutNe {w : World} {p0 p1 p2 p3 p4 p5 : Option Addr} {qs : List Rq} {c : Nat} (h : Six w (.slice p0 qs.length qs.length) (.slice p1 qs.length qs.length) (.slice p2 qs.length qs.length) (.slice p3 qs.length qs.length) (.slice p4 qs.length qs.length) (.slice p5 qs.length qs.length) qs) (hc : c < qs.length) :
    Six w (.slice (p0.map (fun x => x.add c)) (qs.length - c) (qs.length - c)) (.slice (p1.map (fun x => x.add c)) (qs.length - c) (qs.length - c)) (.slice (p2.map (fun x => x.add c)) (qs.length - c) (qs.length - c)) (.slice (p3.map (fun x => x.add c)) (qs.length - c) (qs.length - c)) (.slice (p4.map (fun x => x.add c)) (qs.length - c) (qs.length - c)) (.slice (p5.map (fun x => x.add c)) (qs.length - c) (qs.length - c)) (qs.drop c) := by
  obtain ⟨r0, r1, r2, r3, r4, r5⟩ := h
  refine ⟨?_, ?_, ?_, ?_, ?_, ?_⟩ <;> rw [List.map_drop]
  · exact r0.cutNe (by simp) hc
  · exact r1.cutNe (by simp) hc
  · exact r2.cutNe (by simp) hc
  · exact r3.cutNe (by simp) hc
  · exact r4.cutNe (by simp) hc
  · exact r5.cutNe (by simp) hc
theorem Six.cutEq {w : World} {p0 p1 p2 p3 p4 p5 : Option Addr} {qs : List Rq} {c : Nat} (h : Six w (.slice p0 qs.length qs.length) (.slice p1 qs.length qs.length) (.slice p2 qs.length qs.length) (.slice p3 qs.length qs.length) (.slice p4 qs.length qs.length) (.slice p5 qs.length qs.length) qs) (hc : qs.length ≤ c) :
    Six w (.slice p0 0 0) (.slice p1 0 0) (.slice p2 0 0) (.slice p3 0 0) (.slice p4 0 0) (.slice p5 0 0) (qs.drop c) := by
  rw [List.drop_eq_nil_of_le hc]
  exact ⟨.inl ⟨rfl, _, _, rfl⟩, .inl ⟨rfl, _, _, rfl⟩, .inl ⟨rfl, _, _, rfl⟩, .inl ⟨rfl, _, _, rfl⟩, .inl ⟨rfl, _, _, rfl⟩, .inl ⟨rfl, _, _, rfl⟩⟩
theorem below_trans0 {B : Nat} {w w' : World} (h : Below B w.drew w') : Below B w w' := ⟨h.os, h.tape, h.output, h.size, h.block⟩

set_option maxHeartbeats 8000000 in
set_option maxRecDepth 100000 in
theorem top4_eq (w : World) (a0 a1 a2 a3 a4 a5 : Option Addr) (n c0 c1 c2 c3 c4 c5 : Nat) (base arr ov lost cc : Int) (qs : List Rq) (hq : qs.length = n) (h6 : Six w (.slice a0 n c0) (.slice a1 n c1) (.slice a2 n c2) (.slice a3 n c3) (.slice a4 n c4) (.slice a5 n c5) qs)
    (hn : 19 * n ≤ 1048576) (hbase : -9223372036854775808 ≤ base ∧ base ≤ 9223372036854775807)
    (e0 : a0 = none → c0 = n) (e1 : a1 = none → c1 = n) (e2 : a2 = none → c2 = n) (e3 : a3 = none → c3 = n) (e4 : a4 = none → c4 = n) (e5 : a5 = none → c5 = n)
    (C6 : Hid (Calls Try.prog 6 #[.slice a0 n c0, .slice a1 n c1, .slice a2 n c2, .slice a3 n c3, .slice a4 n c4, .slice a5 n c5, .int .i64 arr, .int .i64 lost] w (BoolEnd w ((cntA qs : Int) = arr)))) :
    Calls Try.prog 4 #[.slice a0 n c0, .slice a1 n c1, .slice a2 n c2, .slice a3 n c3, .slice a4 n c4, .slice a5 n c5, .int .i64 base, .int .i64 arr, .int .i64 ov, .int .i64 lost, .int .i64 cc] w
      fun e w' => e = .returned (.bool true) ∧ Below w.heap.size w w' := by
  subst hq
  have C5 := hid (bytes12 w a0 a1 a2 a3 a4 a5 qs.length c0 qs.length c1 qs.length c2 qs.length c3 qs.length c4 qs.length c5 base arr ov lost cc (by omega))
  have q22 : ∀ (w : World) (a : Option Addr) (n c : Nat), (binOp .neq 22 (.slice a n c) (.slice none 0 0)).run Try.prog w = .ok (.bool !a.isNone) w := fun w a n c => run_neq_slice_nil_any w _ _ a n c 0 0 Try.underlying22
  have q23 : ∀ (w : World) (a : Option Addr) (n c : Nat), (binOp .neq 23 (.slice a n c) (.slice none 0 0)).run Try.prog w = .ok (.bool !a.isNone) w := fun w a n c => run_neq_slice_nil_any w _ _ a n c 0 0 Try.underlying23
  have q24 : ∀ (w : World) (a : Option Addr) (n c : Nat), (binOp .neq 24 (.slice a n c) (.slice none 0 0)).run Try.prog w = .ok (.bool !a.isNone) w := fun w a n c => run_neq_slice_nil_any w _ _ a n c 0 0 Try.underlying24
  obtain ⟨i37, hi37, hz37, hy37, hx37⟩ := info_parts info37
  obtain ⟨i3, hi3, hz3, hy3, hx3⟩ := info_parts info3
  obtain ⟨i4, hi4, hz4, hy4, hx4⟩ := info_parts info4
  have H6 := hid h6
  have E0 := hid e0
  have E1 := hid e1
  have E2 := hid e2
  have E3 := hid e3
  have E4 := hid e4
  have E5 := hid e5
  clear h6 e0 e1 e2 e3 e4 e5
  go_enter Try.func4, Try.ntmps4
  go_wp2_with fail
  refine C5.out.mono ?_
  rintro e wa ⟨rfl, hwa⟩
  rw [hwa]; clear hwa wa C5
  go_wp2_with fail
  refine C6.out.mono ?_
  rintro e wa ⟨b, rfl, hb, hwa⟩
  rw [hwa]; clear hwa wa C6
  cases b with
  | false =>
    clear hi37 hz37 hy37 hx37 hi3 hz3 hy3 hx3 hi4 hz4 hy4 hx4 q22 q23 q24
    go_wp2
    go_ret
    exact ⟨rfl, Below.refl _ _⟩
  | true =>
    have HA := hid (hb rfl)
    clear hb
    go_upto_if 119 with fail
    go_cut [0] (fun v0 wc => (∃ a, v0 = .slice a qs.length qs.length) ∧ Row wc v0 (qs.map fI) ∧ Below w.heap.size w wc)
    case first => as_aux_lemma =>
      cases a0 with
      | none =>
        go_wp2
        go_meet
        case rel => exact ⟨⟨none, by rw [E0.out trivial]⟩, H6.out.r0, Below.refl _ _⟩
      | some x =>
        have hsrc := H6.out.r0.src
        have HS := hid hsrc
        clear hsrc
        go_wp2_with (first
          | (at_make; refine wpList_make_full _ rfl _ _ 22 rfl w.heap.size 37 i37 (.int .u32 0) 1 Try.underlying22 hi37 hz37 hy37 .i64 .i64 qs.length qs.length qs.length rfl rfl rfl rfl (by rw [hx37]; omega) (by unfold maxLen; omega) (by omega) ?_; intro w1 hown1 hgrow1; obtain ⟨cur, hg, hcl, hH⟩ := made_row hown1; have HBm := hid ((Below.refl w.heap.size w).grown hgrow1 (Nat.le_refl _) (fun k hk => by cases hk)); clear hown1 hgrow1)
          | (have _t := hg; refine wpList_copy_splice rfl (.tmp 123) (.tmp 124) 22 22 rfl 37 Try.underlying22 size37 _ _ _ _ _ _ rfl rfl w.heap.size 0 cur 37 hg (qs.map fI) (by rw [HS.out.1]; simp) (fun hp => ⟨rfl, by obtain ⟨ad, e, hc⟩ := HS.out.2 hp; exact ⟨ad, e, fun j v hv => cell_later HBm.out (hc j v hv)⟩⟩) (by rw [HS.out.1]; omega) (one_I qs) w.heap.size w HBm.out (Nat.le_refl _) ?_; intro w2 HG2 hB2))
        go_meet
        case rel => exact ⟨⟨_, rfl⟩, Row.copied HG2.out hcl HS.out.1, hB2⟩
    obtain ⟨hsh0, hrow0, hbel0⟩ := hcut
    rename World => W1
    have HP0 := hid hsh0
    have HR0 := hid hrow0
    have HW1 := hid hbel0
    have HB1 := hid (hbel0)
    clear hsh0 hrow0 hbel0
    go_upto_if 128 with fail
    go_cut [1] (fun v1 wc => (∃ a, v1 = .slice a qs.length qs.length) ∧ Row wc v1 (qs.map fB) ∧ Below W1.heap.size W1 wc)
    case first => as_aux_lemma =>
      cases a1 with
      | none =>
        go_wp2
        go_meet
        case rel => exact ⟨⟨none, by rw [E1.out trivial]⟩, (H6.out.r1.later HB1.out), Below.refl _ _⟩
      | some x =>
        have hsrc := (H6.out.r1.later HB1.out).src
        have HS := hid hsrc
        clear hsrc
        go_wp2_with (first
          | (at_make; refine wpList_make_full _ rfl _ _ 22 rfl W1.heap.size 37 i37 (.int .u32 0) 1 Try.underlying22 hi37 hz37 hy37 .i64 .i64 qs.length qs.length qs.length rfl rfl rfl rfl (by rw [hx37]; omega) (by unfold maxLen; omega) (by omega) ?_; intro w1 hown1 hgrow1; obtain ⟨cur, hg, hcl, hH⟩ := made_row hown1; have HBm := hid ((Below.refl W1.heap.size W1).grown hgrow1 (Nat.le_refl _) (fun k hk => by cases hk)); clear hown1 hgrow1)
          | (have _t := hg; refine wpList_copy_splice rfl (.tmp 132) (.tmp 133) 22 22 rfl 37 Try.underlying22 size37 _ _ _ _ _ _ rfl rfl W1.heap.size 0 cur 37 hg (qs.map fB) (by rw [HS.out.1]; simp) (fun hp => ⟨rfl, by obtain ⟨ad, e, hc⟩ := HS.out.2 hp; exact ⟨ad, e, fun j v hv => cell_later HBm.out (hc j v hv)⟩⟩) (by rw [HS.out.1]; omega) (one_B qs) W1.heap.size W1 HBm.out (Nat.le_refl _) ?_; intro w2 HG2 hB2))
        go_meet
        case rel => exact ⟨⟨_, rfl⟩, Row.copied HG2.out hcl HS.out.1, hB2⟩
    obtain ⟨hsh1, hrow1, hbel1⟩ := hcut
    rename World => W2
    have HP1 := hid hsh1
    have HR1 := hid hrow1
    have HW2 := hid hbel1
    have HB2 := hid (HB1.out.trans (hbel1.mono HB1.out.size))
    clear hsh1 hrow1 hbel1
    replace HR0 := hid (HR0.out.later HW2.out)
    go_upto_if 137 with fail
    go_cut [2] (fun v2 wc => (∃ a, v2 = .slice a qs.length qs.length) ∧ Row wc v2 (qs.map fH) ∧ Below W2.heap.size W2 wc)
    case first => as_aux_lemma =>
      cases a2 with
      | none =>
        go_wp2
        go_meet
        case rel => exact ⟨⟨none, by rw [E2.out trivial]⟩, (H6.out.r2.later HB2.out), Below.refl _ _⟩
      | some x =>
        have hsrc := (H6.out.r2.later HB2.out).src
        have HS := hid hsrc
        clear hsrc
        go_wp2_with (first
          | (at_make; refine wpList_make_full _ rfl _ _ 23 rfl W2.heap.size 3 i3 (.int .i64 0) 1 Try.underlying23 hi3 hz3 hy3 .i64 .i64 qs.length qs.length qs.length rfl rfl rfl rfl (by rw [hx3]; omega) (by unfold maxLen; omega) (by omega) ?_; intro w1 hown1 hgrow1; obtain ⟨cur, hg, hcl, hH⟩ := made_row hown1; have HBm := hid ((Below.refl W2.heap.size W2).grown hgrow1 (Nat.le_refl _) (fun k hk => by cases hk)); clear hown1 hgrow1)
          | (have _t := hg; refine wpList_copy_splice rfl (.tmp 141) (.tmp 142) 23 23 rfl 3 Try.underlying23 size3 _ _ _ _ _ _ rfl rfl W2.heap.size 0 cur 3 hg (qs.map fH) (by rw [HS.out.1]; simp) (fun hp => ⟨rfl, by obtain ⟨ad, e, hc⟩ := HS.out.2 hp; exact ⟨ad, e, fun j v hv => cell_later HBm.out (hc j v hv)⟩⟩) (by rw [HS.out.1]; omega) (one_H qs) W2.heap.size W2 HBm.out (Nat.le_refl _) ?_; intro w2 HG2 hB2))
        go_meet
        case rel => exact ⟨⟨_, rfl⟩, Row.copied HG2.out hcl HS.out.1, hB2⟩
    obtain ⟨hsh2, hrow2, hbel2⟩ := hcut
    rename World => W3
    have HP2 := hid hsh2
    have HR2 := hid hrow2
    have HW3 := hid hbel2
    have HB3 := hid (HB2.out.trans (hbel2.mono HB2.out.size))
    clear hsh2 hrow2 hbel2
    replace HR0 := hid (HR0.out.later HW3.out)
    replace HR1 := hid (HR1.out.later HW3.out)
    go_upto_if 146 with fail
    go_cut [3] (fun v3 wc => (∃ a, v3 = .slice a qs.length qs.length) ∧ Row wc v3 (qs.map fD) ∧ Below W3.heap.size W3 wc)
    case first => as_aux_lemma =>
      cases a3 with
      | none =>
        go_wp2
        go_meet
        case rel => exact ⟨⟨none, by rw [E3.out trivial]⟩, (H6.out.r3.later HB3.out), Below.refl _ _⟩
      | some x =>
        have hsrc := (H6.out.r3.later HB3.out).src
        have HS := hid hsrc
        clear hsrc
        go_wp2_with (first
          | (at_make; refine wpList_make_full _ rfl _ _ 24 rfl W3.heap.size 4 i4 (.bool false) 1 Try.underlying24 hi4 hz4 hy4 .i64 .i64 qs.length qs.length qs.length rfl rfl rfl rfl (by rw [hx4]; omega) (by unfold maxLen; omega) (by omega) ?_; intro w1 hown1 hgrow1; obtain ⟨cur, hg, hcl, hH⟩ := made_row hown1; have HBm := hid ((Below.refl W3.heap.size W3).grown hgrow1 (Nat.le_refl _) (fun k hk => by cases hk)); clear hown1 hgrow1)
          | (have _t := hg; refine wpList_copy_splice rfl (.tmp 150) (.tmp 151) 24 24 rfl 4 Try.underlying24 size4 _ _ _ _ _ _ rfl rfl W3.heap.size 0 cur 4 hg (qs.map fD) (by rw [HS.out.1]; simp) (fun hp => ⟨rfl, by obtain ⟨ad, e, hc⟩ := HS.out.2 hp; exact ⟨ad, e, fun j v hv => cell_later HBm.out (hc j v hv)⟩⟩) (by rw [HS.out.1]; omega) (one_D qs) W3.heap.size W3 HBm.out (Nat.le_refl _) ?_; intro w2 HG2 hB2))
        go_meet
        case rel => exact ⟨⟨_, rfl⟩, Row.copied HG2.out hcl HS.out.1, hB2⟩
    obtain ⟨hsh3, hrow3, hbel3⟩ := hcut
    rename World => W4
    have HP3 := hid hsh3
    have HR3 := hid hrow3
    have HW4 := hid hbel3
    have HB4 := hid (HB3.out.trans (hbel3.mono HB3.out.size))
    clear hsh3 hrow3 hbel3
    replace HR0 := hid (HR0.out.later HW4.out)
    replace HR1 := hid (HR1.out.later HW4.out)
    replace HR2 := hid (HR2.out.later HW4.out)
    go_upto_if 155 with fail
    go_cut [4] (fun v4 wc => (∃ a, v4 = .slice a qs.length qs.length) ∧ Row wc v4 (qs.map fA) ∧ Below W4.heap.size W4 wc)
    case first => as_aux_lemma =>
      cases a4 with
      | none =>
        go_wp2
        go_meet
        case rel => exact ⟨⟨none, by rw [E4.out trivial]⟩, (H6.out.r4.later HB4.out), Below.refl _ _⟩
      | some x =>
        have hsrc := (H6.out.r4.later HB4.out).src
        have HS := hid hsrc
        clear hsrc
        go_wp2_with (first
          | (at_make; refine wpList_make_full _ rfl _ _ 24 rfl W4.heap.size 4 i4 (.bool false) 1 Try.underlying24 hi4 hz4 hy4 .i64 .i64 qs.length qs.length qs.length rfl rfl rfl rfl (by rw [hx4]; omega) (by unfold maxLen; omega) (by omega) ?_; intro w1 hown1 hgrow1; obtain ⟨cur, hg, hcl, hH⟩ := made_row hown1; have HBm := hid ((Below.refl W4.heap.size W4).grown hgrow1 (Nat.le_refl _) (fun k hk => by cases hk)); clear hown1 hgrow1)
          | (have _t := hg; refine wpList_copy_splice rfl (.tmp 159) (.tmp 160) 24 24 rfl 4 Try.underlying24 size4 _ _ _ _ _ _ rfl rfl W4.heap.size 0 cur 4 hg (qs.map fA) (by rw [HS.out.1]; simp) (fun hp => ⟨rfl, by obtain ⟨ad, e, hc⟩ := HS.out.2 hp; exact ⟨ad, e, fun j v hv => cell_later HBm.out (hc j v hv)⟩⟩) (by rw [HS.out.1]; omega) (one_A qs) W4.heap.size W4 HBm.out (Nat.le_refl _) ?_; intro w2 HG2 hB2))
        go_meet
        case rel => exact ⟨⟨_, rfl⟩, Row.copied HG2.out hcl HS.out.1, hB2⟩
    obtain ⟨hsh4, hrow4, hbel4⟩ := hcut
    rename World => W5
    have HP4 := hid hsh4
    have HR4 := hid hrow4
    have HW5 := hid hbel4
    have HB5 := hid (HB4.out.trans (hbel4.mono HB4.out.size))
    clear hsh4 hrow4 hbel4
    replace HR0 := hid (HR0.out.later HW5.out)
    replace HR1 := hid (HR1.out.later HW5.out)
    replace HR2 := hid (HR2.out.later HW5.out)
    replace HR3 := hid (HR3.out.later HW5.out)
    go_upto_if 164 with fail
    go_cut [5] (fun v5 wc => (∃ a, v5 = .slice a qs.length qs.length) ∧ Row wc v5 (qs.map fL) ∧ Below W5.heap.size W5 wc)
    case first => as_aux_lemma =>
      cases a5 with
      | none =>
        go_wp2
        go_meet
        case rel => exact ⟨⟨none, by rw [E5.out trivial]⟩, (H6.out.r5.later HB5.out), Below.refl _ _⟩
      | some x =>
        have hsrc := (H6.out.r5.later HB5.out).src
        have HS := hid hsrc
        clear hsrc
        go_wp2_with (first
          | (at_make; refine wpList_make_full _ rfl _ _ 24 rfl W5.heap.size 4 i4 (.bool false) 1 Try.underlying24 hi4 hz4 hy4 .i64 .i64 qs.length qs.length qs.length rfl rfl rfl rfl (by rw [hx4]; omega) (by unfold maxLen; omega) (by omega) ?_; intro w1 hown1 hgrow1; obtain ⟨cur, hg, hcl, hH⟩ := made_row hown1; have HBm := hid ((Below.refl W5.heap.size W5).grown hgrow1 (Nat.le_refl _) (fun k hk => by cases hk)); clear hown1 hgrow1)
          | (have _t := hg; refine wpList_copy_splice rfl (.tmp 168) (.tmp 169) 24 24 rfl 4 Try.underlying24 size4 _ _ _ _ _ _ rfl rfl W5.heap.size 0 cur 4 hg (qs.map fL) (by rw [HS.out.1]; simp) (fun hp => ⟨rfl, by obtain ⟨ad, e, hc⟩ := HS.out.2 hp; exact ⟨ad, e, fun j v hv => cell_later HBm.out (hc j v hv)⟩⟩) (by rw [HS.out.1]; omega) (one_L qs) W5.heap.size W5 HBm.out (Nat.le_refl _) ?_; intro w2 HG2 hB2))
        go_meet
        case rel => exact ⟨⟨_, rfl⟩, Row.copied HG2.out hcl HS.out.1, hB2⟩
    obtain ⟨hsh5, hrow5, hbel5⟩ := hcut
    rename World => W6
    have HP5 := hid hsh5
    have HR5 := hid hrow5
    have HW6 := hid hbel5
    have HB6 := hid (HB5.out.trans (hbel5.mono HB5.out.size))
    clear hsh5 hrow5 hbel5
    replace HR0 := hid (HR0.out.later HW6.out)
    replace HR1 := hid (HR1.out.later HW6.out)
    replace HR2 := hid (HR2.out.later HW6.out)
    replace HR3 := hid (HR3.out.later HW6.out)
    replace HR4 := hid (HR4.out.later HW6.out)
    obtain ⟨p0, hu0⟩ := HP0.out
    obtain ⟨p1, hu1⟩ := HP1.out
    obtain ⟨p2, hu2⟩ := HP2.out
    obtain ⟨p3, hu3⟩ := HP3.out
    obtain ⟨p4, hu4⟩ := HP4.out
    obtain ⟨p5, hu5⟩ := HP5.out
    subst hu0
    subst hu1
    subst hu2
    subst hu3
    subst hu4
    subst hu5
    have hsix : Six W6 (.slice p0 qs.length qs.length) (.slice p1 qs.length qs.length) (.slice p2 qs.length qs.length) (.slice p3 qs.length qs.length) (.slice p4 qs.length qs.length) (.slice p5 qs.length qs.length) qs := ⟨HR0.out, HR1.out, HR2.out, HR3.out, HR4.out, HR5.out⟩
    have H6c := hid hsix
    have hnq : qs.length ≤ 1048576 := by omega
    clear hsix hi37 hz37 hy37 hx37 hi3 hz3 hy3 hx3 hi4 hz4 hy4 hx4 q22 q23 q24 HR0 HR1 HR2 HR3 HR4 HR5 HW1 HW2 HW3 HW4 HW5 HW6 HB1 HB2 HB3 HB4 HB5 H6 HP0 HP1 HP2 HP3 HP4 HP5 E0 E1 E2 E3 E4 E5
    as_aux_lemma =>
      by_cases hc0 : cc < 0
      · go_wp2_with fail
        go_ret
        exact ⟨rfl, HB6.out⟩
      · by_cases hc1 : (qs.length : Int) < cc
        · go_wp2_with fail
          go_ret
          exact ⟨rfl, HB6.out⟩
        · obtain ⟨C, rfl⟩ : ∃ C : Nat, cc = (C : Int) := ⟨cc.toNat, by omega⟩
          have hCn : C ≤ qs.length := by omega
          clear hc0 hc1
          go_wp2_with fail
          go_loop [30] (fun vj => ∃ j : Nat, j ≤ C ∧ vj = .int .i64 j ∧ ∀ i (hi : i < qs.length), i < j → (qs[i]).d = true) (fun vj => C - (intOf vj).toNat)
          case atStart => exact ⟨0, by omega, rfl, fun i _ h => by omega⟩
          case round =>
            obtain ⟨j, hj, rfl, hall⟩ := hrel
            have HALL := hid hall
            clear hall
            by_cases hlt : j < C
            · have hjq : j < qs.length := by omega
              obtain ⟨g, o, rfl, hcell⟩ := H6c.out.r3.at j hjq
              unfold fD at hcell
              cases hd : (qs[j]).d with
              | false =>
                rw [hd] at hcell
                clear hd
                go_wp2
                go_ret
                exact ⟨rfl, HB6.out⟩
              | true =>
                rw [hd] at hcell
                have HD := hid hd
                clear hd
                go_wp2
                go_round
                case rel => exact ⟨j + 1, by omega, by go_num, fun i hi hij => by
                                                                  by_cases e : i = j
                                                                  · subst e; exact HD.out
                                                                  · exact HALL.out i hi (by omega)⟩
                case measure => simp [intOf]; omega
            · obtain rfl : j = C := by omega
              have C7 := hid (new_any W6 qs base arr ov lost hnq _ _ _ _ _ _ H6c.out)
              go_wp2_with fail
              refine C7.out.mono ?_
              rintro e w7 ⟨b1, rfl, ho1, hb7, hlb1⟩
              have HO1 := hid ho1
              have HB7 := hid hb7
              have hs7 : b1 < w7.heap.size := ho1.lt
              clear ho1 hb7 C7
              have hcs := cnt_split qs j
              obtain ⟨CN, hCN⟩ : ∃ CN, cntA (qs.take j) = CN := ⟨_, rfl⟩
              have hCa : (CN : Int) ≤ arr := by have := HA.out; omega
              have hA2 : arr ≤ 1048576 := by have := HA.out; have := cntA_le qs; omega
              have hA0 : 0 ≤ arr := by have := HA.out; omega
              have H67 := hid (H6c.out.later HB7.out)
              have C10 := hid (count_any w7.drew (.slice p4 qs.length qs.length) qs (j : Int) j rfl hCn hnq H67.out.r4)
              rw [hCN] at C10
              have HCN := hid hCN
              have HCS := hid hcs
              have hnd : (qs.drop j).length ≤ 1048576 := by simp; omega
              have k0 : (0 : Int) ≤ (j : Int) := by omega
              have k1 : (j : Int) ≤ (qs.length : Int) := by omega
              clear hcs hCN
              go_upto_region 42 with fail
              go_cut [32] (fun v32 wc => ∃ b2, v32 = .pointer (some ⟨b2, 0, none⟩) ∧ Ord wc b2 w7.heap.size (qs.drop j) 0 (wrap64 (base + (j : Nat))) (arr - (CN : Nat)) ov lost ∧ Below w7.heap.size w7 wc ∧ w7.heap.size < b2)
              case first => as_aux_lemma =>
                have ewb : IntKind.i64.wrap (base + (j : Int)) = wrap64 (base + (j : Int)) := IntWalk.i64_left _
                have ewa : IntKind.i64.wrap (arr - (CN : Int)) = arr - (CN : Int) := by rw [IntWalk.i64_left]; unfold wrap64; omega
                have EWB := hid ewb
                have EWA := hid ewa
                clear ewb ewa hbase
                by_cases hje : j < qs.length
                · have hne : ¬ qs.length = j := by omega
                  have C7b := hid (new_any w7.drew (qs.drop j) (IntKind.i64.wrap (base + (j : Int))) (IntKind.i64.wrap (arr - (CN : Int))) ov lost hnd _ _ _ _ _ _ (Six.cutNe (w := w7.drew) ⟨H67.out.r0, H67.out.r1, H67.out.r2, H67.out.r3, H67.out.r4, H67.out.r5⟩ hje))
                  clear hA2 hA0 hCa
                  go_region_held3 (fun w' => True) (trivial) (first | (go_at_call 10; refine C10.out.mono ?_; rintro e w' ⟨rfl, rfl⟩) | (go_at_call 7; refine C7b.out.mono ?_; rintro e w8 ⟨b2, rfl, ho2, hb8, hlb2⟩))
                  go_wp2
                  go_meet
                  case rel =>
                    rw [EWB.out, EWA.out] at ho2
                    exact ⟨b2, rfl, ho2, below_trans0 hb8, hlb2⟩
                · obtain rfl : j = qs.length := by omega
                  have C7b := hid (new_any w7.drew (qs.drop qs.length) (IntKind.i64.wrap (base + (qs.length : Int))) (IntKind.i64.wrap (arr - (CN : Int))) ov lost hnd _ _ _ _ _ _ (Six.cutEq (w := w7.drew) ⟨H67.out.r0, H67.out.r1, H67.out.r2, H67.out.r3, H67.out.r4, H67.out.r5⟩ (Nat.le_refl _)))
                  clear hA2 hA0 hCa
                  go_region_held3 (fun w' => True) (trivial) (first | (go_at_call 10; refine C10.out.mono ?_; rintro e w' ⟨rfl, rfl⟩) | (go_at_call 7; refine C7b.out.mono ?_; rintro e w8 ⟨b2, rfl, ho2, hb8, hlb2⟩))
                  go_wp2
                  go_meet
                  case rel =>
                    rw [EWB.out, EWA.out] at ho2
                    exact ⟨b2, rfl, ho2, below_trans0 hb8, hlb2⟩
              obtain ⟨b2, hv32, ho2, hb8, hlb2⟩ := hcut
              rename World => w8
              subst hv32
              as_aux_lemma =>
                have hfl := fr_le qs
                have hfd := fr_drop qs j hCn (fun i hi hij => HALL.out i hi hij)
                obtain ⟨K, hK⟩ : ∃ K, fr qs = K := ⟨_, rfl⟩
                obtain ⟨K2, hK2⟩ : ∃ K2, fr (qs.drop j) = K2 := ⟨_, rfl⟩
                have hr1 : W6.heap.size < w7.heap.size := by omega
                have O1 : Ord w8 b1 W6.heap.size qs 0 base arr ov lost := HO1.out.kept (hb8.block _ hs7) (hb8.block _ hr1)
                have T1 := hid (trim0 w8 b1 W6.heap.size qs base arr ov lost O1 hnq HA.out hbase)
                have hsz8 : w7.heap.size ≤ w8.heap.size := hb8.size
                have hb2s : b2 < w8.heap.size := ho2.lt
                have T2 : Hid (∀ w9, Same b1 w8 w9 → Calls Try.prog 8 #[.pointer (some ⟨b2, 0, none⟩)] w9 fun e w' => e = .returned (.tuple #[]) ∧ Ord w' b2 w7.heap.size (qs.drop j) K2 (wrap64 (base + (K : Nat))) (arr - (cntA (qs.take K) : Nat)) ov lost ∧ Same b2 w9 w') := by
                  intro w9 hs9
                  have o9 : Ord w9 b2 w7.heap.size (qs.drop j) 0 (wrap64 (base + (j : Nat))) (arr - (CN : Nat)) ov lost := ho2.kept (hs9.block _ (by omega)) (hs9.block _ (by omega))
                  have hcd : (cntA (qs.drop j) : Int) = arr - (CN : Nat) := by have := HCS.out; have := HCN.out; have := HA.out; omega
                  have := trim0 w9 b2 w7.heap.size (qs.drop j) _ _ ov lost o9 hnd hcd (wrap_in _)
                  have eb : wrap64 (wrap64 (base + (j : Nat)) + (K2 : Nat)) = wrap64 (base + (K : Nat)) := by unfold wrap64; omega
                  have ea : arr - (CN : Nat) - (cntA ((qs.drop j).take K2) : Nat) = arr - (cntA (qs.take K) : Nat) := by
                    have e : qs.take K = qs.take j ++ (qs.drop j).take K2 := by rw [show K = j + K2 by omega, take_two]
                    rw [e, cntA_append, HCN.out]
                    omega
                  rw [hK2, eb, ea] at this
                  exact this
                rw [hK] at T1
                have hKn : K ≤ qs.length := by omega
                obtain ⟨M, hM⟩ : ∃ M, qs.length - K = M := ⟨_, rfl⟩
                have hML : M ≤ qs.length := by omega
                have HD : Hid (qs.drop K = (qs.drop j).drop K2) := by
                  show _ = _
                  rw [List.drop_drop]
                  congr 1
                  omega
                have hbe : (wrap64 (wrap64 (base + (K : Int)) + (M : Int)) != wrap64 (base + (qs.length : Int))) = false := by
                  have : wrap64 (wrap64 (base + (K : Int)) + (M : Int)) = wrap64 (base + (qs.length : Int)) := by unfold wrap64; omega
                  rw [this]; simp
                have HF2 : Hid (∀ (hj : K < qs.length), (qs[K]).d = false) := by
                  have := fr_stop qs
                  simp only [hK] at this
                  exact this
                have hcs := cnt_split qs K
                obtain ⟨CK, hCK⟩ : ∃ CK, cntA (qs.take K) = CK := ⟨_, rfl⟩
                have HEND : Hid (arr - (CK : Int) = (cntA (qs.drop K) : Int)) := by
                  show _ = _
                  have := HA.out
                  omega
                rw [hCK] at T1 T2
                have HM := hid hM
                have HB8 := hid hb8
                clear hfl hfd hK hK2 O1 ho2 hcs hCK hM hb8 HA HCS HCN HALL C10 hbase
                go_wp2_with fail
                refine T1.out.mono ?_
                rintro e w9 ⟨rfl, ho9, hs9⟩
                go_wp2_with fail
                refine (T2.out w9 hs9).mono ?_
                rintro e w10 ⟨rfl, ho10, hs10⟩
                have o1 : Ord w10 b1 W6.heap.size qs K (wrap64 (base + (K : Nat))) (arr - (CK : Nat)) ov lost := ho9.kept (hs10.block _ (by omega)) (hs10.block _ (by omega))
                have hz10 : w10.heap.size = w8.heap.size := by rw [hs10.size, hs9.size]
                have AG := hid (agree_any w10 b1 W6.heap.size K b2 w7.heap.size K2 qs (qs.drop j) _ _ ov lost o1 ho10 hnq hnd (by omega) (by omega) HD.out)
                have HBX := hid (Same.keeps (Same.keeps (HB7.out.trans (HB8.out.mono (by omega))) hs9 (by omega)) hs10 (by omega))
                have HO := hid o1
                clear ho9 hs9 ho10 hs10 o1 T1 T2
                go_wp2_with fail
                refine AG.out.mono ?_
                rintro e w11 ⟨rfl, hb11⟩
                have hO11 : Ord w11 b1 W6.heap.size qs K (wrap64 (base + (K : Nat))) (arr - (CK : Nat)) ov lost := HO.out.kept (hb11.block _ (by omega)) (hb11.block _ (by omega))
                have hr11 : W6.heap.size < w11.heap.size := by have := hb11.size; omega
                have hb11s : b1 < w11.heap.size := by have := hb11.size; omega
                have L9 := hid (len_any w11 b1 W6.heap.size qs K _ _ ov lost hO11)
                rw [HM.out] at L9
                have L14 := hid (counts_any w11 b1 W6.heap.size qs K _ _ ov lost hO11)
                have HO11 := hid hO11
                have HB11 := hid (HBX.out.trans (hb11.mono HBX.out.size))
                clear AG hb11 hO11 HO
                go_wp2_with fail
                refine L9.out.mono ?_
                rintro e wa ⟨rfl, hwa⟩
                rw [hwa]; clear hwa wa L9
                go_wp2_with fail
                refine L14.out.mono ?_
                rintro e wa ⟨rfl, q, hwa⟩
                rw [hwa]; clear hwa wa L14
                go_wp2_with fail
                go_loopw [38, 39] (fun vk vj wr => ∃ i : Nat, i ≤ M ∧ vj = .int .i64 i ∧ vk = .int .i64 (cntA ((qs.drop K).take i) : Nat) ∧ Below w11.heap.size w11 wr) (fun _ vj _ => M - (intOf vj).toNat)
                case atStart => exact ⟨0, by omega, rfl, rfl, (Below.refl _ _).trans ⟨rfl, rfl, rfl, Nat.le_refl _, fun _ _ => rfl⟩⟩
                case round =>
                  obtain ⟨i, hi, rfl, rfl, hbr⟩ := hrel
                  have hle := cntA_le ((qs.drop K).take i)
                  have hlen : ((qs.drop K).take i).length ≤ i := List.length_take_le _ _
                  by_cases hlt2 : i < M
                  · have hKi : K + i < qs.length := by have := HM.out; omega
                    have R := hid (req_any wr b1 W6.heap.size qs K i i rfl _ _ ov lost (HO11.out.kept (hbr.block _ hb11s) (hbr.block _ hr11)) hKi hnq)
                    have hsn := cntA_snoc (qs.drop K) i (by simp; omega)
                    rw [List.getElem_drop] at hsn
                    have hd0 : i = 0 → (qs[K + i]).d = false := by
                      intro e
                      subst e
                      exact HF2.out (by omega)
                    generalize qs[K + i] = p at *
                    obtain ⟨cj, hcj⟩ : ∃ cj, cntA ((qs.drop K).take i) = cj := ⟨_, rfl⟩
                    rw [hcj] at hsn hle ⊢
                    have HSN := hid hsn
                    have HBR := hid hbr
                    have HD0 := hid hd0
                    clear hsn hcj hbr hd0
                    go_wp2_with fail
                    refine R.out.mono ?_
                    rintro e w12 ⟨rfl, hb12⟩
                    have HB12 := hid (HBR.out.trans (hb12.mono HBR.out.size))
                    clear hb12 R
                    by_cases hi0 : i = 0
                    · have hpd := HD0.out hi0
                      have hib : ((i : Int) == 0) = true := by simp [hi0]
                      have HI0 := hid hi0
                      clear hi0
                      cases hpa : p.a with
                      | false =>
                        have HS2 : Hid (cntA ((qs.drop K).take (i + 1)) = cj) := by show _ = _; rw [HSN.out, hpa]; simp
                        go_wp2
                        go_roundw
                        case rel => exact ⟨i + 1, by omega, by go_num, by rw [HS2.out], HB12.out⟩
                        case measure => simp [intOf]; omega
                      | true =>
                        have HS2 : Hid (cntA ((qs.drop K).take (i + 1)) = cj + 1) := by show _ = _; rw [HSN.out, hpa]; simp
                        go_wp2
                        go_roundw
                        case rel => exact ⟨i + 1, by omega, by go_num, by rw [HS2.out]; go_num, HB12.out⟩
                        case measure => simp [intOf]; omega
                    · have hib : ((i : Int) == 0) = false := by simpa using hi0
                      cases hpa : p.a with
                      | false =>
                        have HS2 : Hid (cntA ((qs.drop K).take (i + 1)) = cj) := by show _ = _; rw [HSN.out, hpa]; simp
                        go_wp2
                        go_roundw
                        case rel => exact ⟨i + 1, by omega, by go_num, by rw [HS2.out], HB12.out⟩
                        case measure => simp [intOf]; omega
                      | true =>
                        have HS2 : Hid (cntA ((qs.drop K).take (i + 1)) = cj + 1) := by show _ = _; rw [HSN.out, hpa]; simp
                        go_wp2
                        go_roundw
                        case rel => exact ⟨i + 1, by omega, by go_num, by rw [HS2.out]; go_num, HB12.out⟩
                        case measure => simp [intOf]; omega
                  · obtain rfl : i = M := by omega
                    have HBR := hid hbr
                    have htk : (qs.drop K).take i = qs.drop K := List.take_of_length_le (by rw [List.length_drop, HM.out]; exact Nat.le_refl _)
                    rw [htk] at hle ⊢
                    clear htk hbr hlen
                    go_wp2
                    go_ret
                    exact ⟨by rw [HEND.out]; simp, (HB6.out.trans (HB11.out.mono HB6.out.size)).trans (HBR.out.mono (Nat.le_trans HB6.out.size HB11.out.size))⟩

end Go.Proofs.Qxb6608625a
