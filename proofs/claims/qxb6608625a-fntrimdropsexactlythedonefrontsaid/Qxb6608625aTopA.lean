import Derived.Test.Qxb6608625aLaw
namespace Go.Proofs.Qxb6608625a
open Go.RowKit
set_option linter.unusedVariables false

set_option maxHeartbeats 4000000 in
set_option maxRecDepth 100000 in
theorem top3_eq (w : World) (a0 a1 a2 a3 a4 a5 : Option Addr) (n c0 c1 c2 c3 c4 c5 : Nat) (base arr ov lost : Int) (qs : List Rq) (hq : qs.length = n) (h6 : Six w (.slice a0 n c0) (.slice a1 n c1) (.slice a2 n c2) (.slice a3 n c3) (.slice a4 n c4) (.slice a5 n c5) qs)
    (hn : 19 * n ≤ 1048576) (hbase : -9223372036854775808 ≤ base ∧ base ≤ 9223372036854775807) 
    (C6 : Hid (Calls Try.prog 6 #[.slice a0 n c0, .slice a1 n c1, .slice a2 n c2, .slice a3 n c3, .slice a4 n c4, .slice a5 n c5, .int .i64 arr, .int .i64 lost] w (BoolEnd w ((cntA qs : Int) = arr)))) :
    Calls Try.prog 3 #[.slice a0 n c0, .slice a1 n c1, .slice a2 n c2, .slice a3 n c3, .slice a4 n c4, .slice a5 n c5, .int .i64 base, .int .i64 arr, .int .i64 ov, .int .i64 lost] w
      fun e w' => e = .returned (.bool true) ∧ Below w.heap.size w w' := by
  subst hq
  have C5 := hid (bytes5 w a0 a1 a2 a3 a4 a5 qs.length c0 qs.length c1 qs.length c2 qs.length c3 qs.length c4 qs.length c5 base arr ov lost (by omega))
  have q22 : ∀ (w : World) (a : Option Addr) (n c : Nat), (binOp .neq 22 (.slice a n c) (.slice none 0 0)).run Try.prog w = .ok (.bool !a.isNone) w := fun w a n c => run_neq_slice_nil_any w _ _ a n c 0 0 Try.underlying22
  have q23 : ∀ (w : World) (a : Option Addr) (n c : Nat), (binOp .neq 23 (.slice a n c) (.slice none 0 0)).run Try.prog w = .ok (.bool !a.isNone) w := fun w a n c => run_neq_slice_nil_any w _ _ a n c 0 0 Try.underlying23
  have q24 : ∀ (w : World) (a : Option Addr) (n c : Nat), (binOp .neq 24 (.slice a n c) (.slice none 0 0)).run Try.prog w = .ok (.bool !a.isNone) w := fun w a n c => run_neq_slice_nil_any w _ _ a n c 0 0 Try.underlying24
  obtain ⟨i37, hi37, hz37, hy37, hx37⟩ := info_parts info37
  obtain ⟨i3, hi3, hz3, hy3, hx3⟩ := info_parts info3
  obtain ⟨i4, hi4, hz4, hy4, hx4⟩ := info_parts info4
  have H6 := hid h6
  clear h6
  go_enter Try.func3, Try.ntmps3
  go_wp2_with fail
  refine C5.out.mono ?_
  rintro e wa ⟨rfl, hwa⟩
  rw [hwa]; clear hwa wa C5
  go_wp2_with fail
  refine C6.out.mono ?_
  rintro e wa ⟨b, rfl, hb, hwa⟩
  rw [hwa]; clear hwa wa C6
  cases b with
  | false =>
    clear hi37 hz37 hy37 hx37 hi3 hz3 hy3 hx3 hi4 hz4 hy4 hx4 q22 q23 q24
    go_wp2
    go_ret
    exact ⟨rfl, Below.refl _ _⟩
  | true =>
    have HA := hid (hb rfl)
    clear hb
    go_upto_if 105 with fail
    go_cut [0] (fun v0 wc => Row wc v0 (qs.map fI) ∧ Below w.heap.size w wc)
    case first => as_aux_lemma =>
      cases a0 with
      | none =>
        go_wp2
        go_meet
        case rel => exact ⟨H6.out.r0, Below.refl _ _⟩
      | some x =>
        have hsrc := H6.out.r0.src
        have HS := hid hsrc
        clear hsrc
        go_wp2_with (first
          | (at_make; refine wpList_make_full _ rfl _ _ 22 rfl w.heap.size 37 i37 (.int .u32 0) 1 Try.underlying22 hi37 hz37 hy37 .i64 .i64 qs.length qs.length qs.length rfl rfl rfl rfl (by rw [hx37]; omega) (by unfold maxLen; omega) (by omega) ?_; intro w1 hown1 hgrow1; obtain ⟨cur, hg, hcl, hH⟩ := made_row hown1; have HBm := hid ((Below.refl w.heap.size w).grown hgrow1 (Nat.le_refl _) (fun k hk => by cases hk)); clear hown1 hgrow1)
          | (have _t := hg; refine wpList_copy_splice rfl (.tmp 109) (.tmp 110) 22 22 rfl 37 Try.underlying22 size37 _ _ _ _ _ _ rfl rfl w.heap.size 0 cur 37 hg (qs.map fI) (by rw [HS.out.1]; simp) (fun hp => ⟨rfl, by obtain ⟨ad, e, hc⟩ := HS.out.2 hp; exact ⟨ad, e, fun j v hv => cell_later HBm.out (hc j v hv)⟩⟩) (by rw [HS.out.1]; omega) (one_I qs) w.heap.size w HBm.out (Nat.le_refl _) ?_; intro w2 HG2 hB2))
        go_meet
        case rel => exact ⟨Row.copied HG2.out hcl HS.out.1, hB2⟩
    obtain ⟨hrow0, hbel0⟩ := hcut
    rename World => W1
    have HR0 := hid hrow0
    have HW1 := hid hbel0
    have HB1 := hid (hbel0)
    clear hrow0 hbel0
    go_upto_if 114 with fail
    go_cut [1] (fun v1 wc => Row wc v1 (qs.map fB) ∧ Below W1.heap.size W1 wc)
    case first => as_aux_lemma =>
      cases a1 with
      | none =>
        go_wp2
        go_meet
        case rel => exact ⟨(H6.out.r1.later HB1.out), Below.refl _ _⟩
      | some x =>
        have hsrc := (H6.out.r1.later HB1.out).src
        have HS := hid hsrc
        clear hsrc
        go_wp2_with (first
          | (at_make; refine wpList_make_full _ rfl _ _ 22 rfl W1.heap.size 37 i37 (.int .u32 0) 1 Try.underlying22 hi37 hz37 hy37 .i64 .i64 qs.length qs.length qs.length rfl rfl rfl rfl (by rw [hx37]; omega) (by unfold maxLen; omega) (by omega) ?_; intro w1 hown1 hgrow1; obtain ⟨cur, hg, hcl, hH⟩ := made_row hown1; have HBm := hid ((Below.refl W1.heap.size W1).grown hgrow1 (Nat.le_refl _) (fun k hk => by cases hk)); clear hown1 hgrow1)
          | (have _t := hg; refine wpList_copy_splice rfl (.tmp 118) (.tmp 119) 22 22 rfl 37 Try.underlying22 size37 _ _ _ _ _ _ rfl rfl W1.heap.size 0 cur 37 hg (qs.map fB) (by rw [HS.out.1]; simp) (fun hp => ⟨rfl, by obtain ⟨ad, e, hc⟩ := HS.out.2 hp; exact ⟨ad, e, fun j v hv => cell_later HBm.out (hc j v hv)⟩⟩) (by rw [HS.out.1]; omega) (one_B qs) W1.heap.size W1 HBm.out (Nat.le_refl _) ?_; intro w2 HG2 hB2))
        go_meet
        case rel => exact ⟨Row.copied HG2.out hcl HS.out.1, hB2⟩
    obtain ⟨hrow1, hbel1⟩ := hcut
    rename World => W2
    have HR1 := hid hrow1
    have HW2 := hid hbel1
    have HB2 := hid (HB1.out.trans (hbel1.mono HB1.out.size))
    clear hrow1 hbel1
    replace HR0 := hid (HR0.out.later HW2.out)
    go_upto_if 123 with fail
    go_cut [2] (fun v2 wc => Row wc v2 (qs.map fH) ∧ Below W2.heap.size W2 wc)
    case first => as_aux_lemma =>
      cases a2 with
      | none =>
        go_wp2
        go_meet
        case rel => exact ⟨(H6.out.r2.later HB2.out), Below.refl _ _⟩
      | some x =>
        have hsrc := (H6.out.r2.later HB2.out).src
        have HS := hid hsrc
        clear hsrc
        go_wp2_with (first
          | (at_make; refine wpList_make_full _ rfl _ _ 23 rfl W2.heap.size 3 i3 (.int .i64 0) 1 Try.underlying23 hi3 hz3 hy3 .i64 .i64 qs.length qs.length qs.length rfl rfl rfl rfl (by rw [hx3]; omega) (by unfold maxLen; omega) (by omega) ?_; intro w1 hown1 hgrow1; obtain ⟨cur, hg, hcl, hH⟩ := made_row hown1; have HBm := hid ((Below.refl W2.heap.size W2).grown hgrow1 (Nat.le_refl _) (fun k hk => by cases hk)); clear hown1 hgrow1)
          | (have _t := hg; refine wpList_copy_splice rfl (.tmp 127) (.tmp 128) 23 23 rfl 3 Try.underlying23 size3 _ _ _ _ _ _ rfl rfl W2.heap.size 0 cur 3 hg (qs.map fH) (by rw [HS.out.1]; simp) (fun hp => ⟨rfl, by obtain ⟨ad, e, hc⟩ := HS.out.2 hp; exact ⟨ad, e, fun j v hv => cell_later HBm.out (hc j v hv)⟩⟩) (by rw [HS.out.1]; omega) (one_H qs) W2.heap.size W2 HBm.out (Nat.le_refl _) ?_; intro w2 HG2 hB2))
        go_meet
        case rel => exact ⟨Row.copied HG2.out hcl HS.out.1, hB2⟩
    obtain ⟨hrow2, hbel2⟩ := hcut
    rename World => W3
    have HR2 := hid hrow2
    have HW3 := hid hbel2
    have HB3 := hid (HB2.out.trans (hbel2.mono HB2.out.size))
    clear hrow2 hbel2
    replace HR0 := hid (HR0.out.later HW3.out)
    replace HR1 := hid (HR1.out.later HW3.out)
    go_upto_if 132 with fail
    go_cut [3] (fun v3 wc => Row wc v3 (qs.map fD) ∧ Below W3.heap.size W3 wc)
    case first => as_aux_lemma =>
      cases a3 with
      | none =>
        go_wp2
        go_meet
        case rel => exact ⟨(H6.out.r3.later HB3.out), Below.refl _ _⟩
      | some x =>
        have hsrc := (H6.out.r3.later HB3.out).src
        have HS := hid hsrc
        clear hsrc
        go_wp2_with (first
          | (at_make; refine wpList_make_full _ rfl _ _ 24 rfl W3.heap.size 4 i4 (.bool false) 1 Try.underlying24 hi4 hz4 hy4 .i64 .i64 qs.length qs.length qs.length rfl rfl rfl rfl (by rw [hx4]; omega) (by unfold maxLen; omega) (by omega) ?_; intro w1 hown1 hgrow1; obtain ⟨cur, hg, hcl, hH⟩ := made_row hown1; have HBm := hid ((Below.refl W3.heap.size W3).grown hgrow1 (Nat.le_refl _) (fun k hk => by cases hk)); clear hown1 hgrow1)
          | (have _t := hg; refine wpList_copy_splice rfl (.tmp 136) (.tmp 137) 24 24 rfl 4 Try.underlying24 size4 _ _ _ _ _ _ rfl rfl W3.heap.size 0 cur 4 hg (qs.map fD) (by rw [HS.out.1]; simp) (fun hp => ⟨rfl, by obtain ⟨ad, e, hc⟩ := HS.out.2 hp; exact ⟨ad, e, fun j v hv => cell_later HBm.out (hc j v hv)⟩⟩) (by rw [HS.out.1]; omega) (one_D qs) W3.heap.size W3 HBm.out (Nat.le_refl _) ?_; intro w2 HG2 hB2))
        go_meet
        case rel => exact ⟨Row.copied HG2.out hcl HS.out.1, hB2⟩
    obtain ⟨hrow3, hbel3⟩ := hcut
    rename World => W4
    have HR3 := hid hrow3
    have HW4 := hid hbel3
    have HB4 := hid (HB3.out.trans (hbel3.mono HB3.out.size))
    clear hrow3 hbel3
    replace HR0 := hid (HR0.out.later HW4.out)
    replace HR1 := hid (HR1.out.later HW4.out)
    replace HR2 := hid (HR2.out.later HW4.out)
    go_upto_if 141 with fail
    go_cut [4] (fun v4 wc => Row wc v4 (qs.map fA) ∧ Below W4.heap.size W4 wc)
    case first => as_aux_lemma =>
      cases a4 with
      | none =>
        go_wp2
        go_meet
        case rel => exact ⟨(H6.out.r4.later HB4.out), Below.refl _ _⟩
      | some x =>
        have hsrc := (H6.out.r4.later HB4.out).src
        have HS := hid hsrc
        clear hsrc
        go_wp2_with (first
          | (at_make; refine wpList_make_full _ rfl _ _ 24 rfl W4.heap.size 4 i4 (.bool false) 1 Try.underlying24 hi4 hz4 hy4 .i64 .i64 qs.length qs.length qs.length rfl rfl rfl rfl (by rw [hx4]; omega) (by unfold maxLen; omega) (by omega) ?_; intro w1 hown1 hgrow1; obtain ⟨cur, hg, hcl, hH⟩ := made_row hown1; have HBm := hid ((Below.refl W4.heap.size W4).grown hgrow1 (Nat.le_refl _) (fun k hk => by cases hk)); clear hown1 hgrow1)
          | (have _t := hg; refine wpList_copy_splice rfl (.tmp 145) (.tmp 146) 24 24 rfl 4 Try.underlying24 size4 _ _ _ _ _ _ rfl rfl W4.heap.size 0 cur 4 hg (qs.map fA) (by rw [HS.out.1]; simp) (fun hp => ⟨rfl, by obtain ⟨ad, e, hc⟩ := HS.out.2 hp; exact ⟨ad, e, fun j v hv => cell_later HBm.out (hc j v hv)⟩⟩) (by rw [HS.out.1]; omega) (one_A qs) W4.heap.size W4 HBm.out (Nat.le_refl _) ?_; intro w2 HG2 hB2))
        go_meet
        case rel => exact ⟨Row.copied HG2.out hcl HS.out.1, hB2⟩
    obtain ⟨hrow4, hbel4⟩ := hcut
    rename World => W5
    have HR4 := hid hrow4
    have HW5 := hid hbel4
    have HB5 := hid (HB4.out.trans (hbel4.mono HB4.out.size))
    clear hrow4 hbel4
    replace HR0 := hid (HR0.out.later HW5.out)
    replace HR1 := hid (HR1.out.later HW5.out)
    replace HR2 := hid (HR2.out.later HW5.out)
    replace HR3 := hid (HR3.out.later HW5.out)
    go_upto_if 150 with fail
    go_cut [5] (fun v5 wc => Row wc v5 (qs.map fL) ∧ Below W5.heap.size W5 wc)
    case first => as_aux_lemma =>
      cases a5 with
      | none =>
        go_wp2
        go_meet
        case rel => exact ⟨(H6.out.r5.later HB5.out), Below.refl _ _⟩
      | some x =>
        have hsrc := (H6.out.r5.later HB5.out).src
        have HS := hid hsrc
        clear hsrc
        go_wp2_with (first
          | (at_make; refine wpList_make_full _ rfl _ _ 24 rfl W5.heap.size 4 i4 (.bool false) 1 Try.underlying24 hi4 hz4 hy4 .i64 .i64 qs.length qs.length qs.length rfl rfl rfl rfl (by rw [hx4]; omega) (by unfold maxLen; omega) (by omega) ?_; intro w1 hown1 hgrow1; obtain ⟨cur, hg, hcl, hH⟩ := made_row hown1; have HBm := hid ((Below.refl W5.heap.size W5).grown hgrow1 (Nat.le_refl _) (fun k hk => by cases hk)); clear hown1 hgrow1)
          | (have _t := hg; refine wpList_copy_splice rfl (.tmp 154) (.tmp 155) 24 24 rfl 4 Try.underlying24 size4 _ _ _ _ _ _ rfl rfl W5.heap.size 0 cur 4 hg (qs.map fL) (by rw [HS.out.1]; simp) (fun hp => ⟨rfl, by obtain ⟨ad, e, hc⟩ := HS.out.2 hp; exact ⟨ad, e, fun j v hv => cell_later HBm.out (hc j v hv)⟩⟩) (by rw [HS.out.1]; omega) (one_L qs) W5.heap.size W5 HBm.out (Nat.le_refl _) ?_; intro w2 HG2 hB2))
        go_meet
        case rel => exact ⟨Row.copied HG2.out hcl HS.out.1, hB2⟩
    obtain ⟨hrow5, hbel5⟩ := hcut
    rename World => W6
    have HR5 := hid hrow5
    have HW6 := hid hbel5
    have HB6 := hid (HB5.out.trans (hbel5.mono HB5.out.size))
    clear hrow5 hbel5
    replace HR0 := hid (HR0.out.later HW6.out)
    replace HR1 := hid (HR1.out.later HW6.out)
    replace HR2 := hid (HR2.out.later HW6.out)
    replace HR3 := hid (HR3.out.later HW6.out)
    replace HR4 := hid (HR4.out.later HW6.out)
    have hsix : Six W6 u0 u1 u2 u3 u4 u5 qs := ⟨HR0.out, HR1.out, HR2.out, HR3.out, HR4.out, HR5.out⟩
    have H6c := hid hsix
    have hnq : qs.length ≤ 1048576 := by omega
    have hlen0 : ∃ a c, u0 = .slice a qs.length c := by
      obtain ⟨a, c, e⟩ := HR0.out.shape
      rw [List.length_map] at e
      exact ⟨a, c, e⟩
    obtain ⟨aa, cc, hu0⟩ := hlen0
    subst hu0
    clear hsix hi37 hz37 hy37 hx37 hi3 hz3 hy3 hx3 hi4 hz4 hy4 hx4 q22 q23 q24 HR0 HR1 HR2 HR3 HR4 HR5 HW1 HW2 HW3 HW4 HW5 HW6 HB1 HB2 HB3 HB4 HB5 H6
    as_aux_lemma =>
      go_wp2_with fail
      refine (new_any W6 qs base arr ov lost hnq _ _ _ _ _ _ H6c.out).mono ?_
      rintro e w7 ⟨b, rfl, ho, hb7, hlb⟩
      have C8 := hid (trim0 w7 b W6.heap.size qs base arr ov lost ho hnq HA.out hbase)
      have HB7 := hid hb7
      have hsz7 : W6.heap.size < w7.heap.size := by have := ho.lt; omega
      clear ho hb7
      go_wp2_with fail
      refine C8.out.mono ?_
      rintro e w8 ⟨rfl, ho, hs⟩
      clear C8
      have HB8 := hid (Same.keeps HB7.out hs (Nat.le_of_lt hlb))
      have hr8 : W6.heap.size < w8.heap.size := by rw [hs.size]; exact hsz7
      have H68 := hid (H6c.out.later HB8.out)
      have HO := hid ho
      clear HB7 ho hs hsz7
      have hfl := fr_le qs
      obtain ⟨K, hK⟩ : ∃ K, fr qs = K := ⟨_, rfl⟩
      obtain ⟨M, hM⟩ : ∃ M, qs.length - K = M := ⟨_, rfl⟩
      have hKM : (qs.length : Int) - (M : Int) = (K : Int) := by omega
      have hML : M ≤ qs.length := by omega
      have hKL : K ≤ qs.length := by omega
      have HK := hid hK
      have C9 := hid (len_any w8 b W6.heap.size qs K _ _ ov lost (by rw [hK] at HO; exact HO.out))
      rw [hM] at C9
      clear hK hM hfl
      go_wp2_with fail
      refine C9.out.mono ?_
      rintro e wa ⟨rfl, hwa⟩
      rw [hwa]; clear hwa wa C9
      have hcs := cnt_split qs K
      obtain ⟨C, hC⟩ : ∃ C, cntA (qs.take K) = C := ⟨_, rfl⟩
      have hCa : (C : Int) ≤ arr := by have := HA.out; omega
      have hA2 : arr ≤ 1048576 := by have := HA.out; have := cntA_le qs; omega
      have hOK : Ord w8 b W6.heap.size qs K (wrap64 (base + (K : Nat))) (arr - (C : Nat)) ov lost := by
        have := HO.out
        rw [HK.out, hC] at this
        exact this
      have HOK := hid hOK
      have HCd : Hid ((cntA (qs.drop K) : Int) ≤ arr - (C : Int)) := by
        show _ ≤ _
        have := HA.out
        omega
      have hbl := hOK.lt
      have C10 := hid (count_any w8 u4 qs (K : Int) K rfl hKL hnq H68.out.r4)
      rw [hC] at C10
      have C11 := hid (is_any w8 b W6.heap.size K (K : Int) rfl qs (wrap64 (base + (K : Nat))) (arr - (C : Nat)) ov lost hOK hnq hr8 _ _ _ _ _ _ H68.out)
      have C12 : Hid (∀ w9, Below w8.heap.size w8 w9 → Calls Try.prog 8 #[.pointer (some ⟨b, 0, none⟩)] w9 fun e w' => e = .returned (.tuple #[]) ∧ (Ord w' b W6.heap.size qs K (wrap64 (base + (K : Nat))) (arr - (C : Nat)) ov lost) ∧ Same b w9 w') := by
        intro w9 h9
        have h := (HOK.out.kept (h9.block b hbl) (h9.block _ hr8))
        rw [← HK.out] at h
        have hd := HCd.out
        rw [← HK.out] at hd
        have := trim1 w9 b W6.heap.size qs (base + (fr qs : Nat)) (arr - (C : Nat)) ov lost h hnq hd (by omega)
        rw [HK.out] at this
        exact this
      clear hcs hC hOK HO HA HCd hbase
      have HF : Hid (∀ j (hj : j < qs.length), j < K → (qs[j]).d = true) := by
        intro j hj hjK
        exact fr_front qs j hj (by rw [HK.out]; exact hjK)
      have HF2 : Hid (∀ (hj : K < qs.length), (qs[K]).d = false) := by
        have := fr_stop qs
        simp only [HK.out] at this
        exact this
      have h3 := H68.out.r3.opn
      rcases h3 with ⟨hnil, a3', c3', hu3⟩ | ⟨g3, o3, c3', hu3, hc3⟩
      · subst hu3
        have hq0 : qs.length ≤ 0 := by rw [hnil]; simp
        have hK0 : K ≤ 0 := by omega
        clear hnil
        go_wp2_with fail
        refine wp_loop_rounds 1 ?_
        rw [rounds_succ]
        go_wp2_with fail
        refine C10.out.mono ?_
        rintro e wa ⟨rfl, hwa⟩
        rw [hwa]; clear hwa wa C10
        go_wp2_with fail
        refine C11.out.mono ?_
        rintro e w9 ⟨rfl, hb9⟩
        have HB9 := hid hb9
        clear hb9 C11
        go_wp2_with fail
        refine (C12.out w9 HB9.out).mono ?_
        rintro e w10 ⟨rfl, ho10, hs10⟩
        have hb10 := Same.keeps (HB8.out.trans (HB9.out.mono HB8.out.size)) hs10 (Nat.le_of_lt hlb)
        have hr10 : W6.heap.size < w10.heap.size := by have := HB9.out.size; rw [hs10.size]; omega
        have C13 := hid (is_any w10 b W6.heap.size _ _ rfl _ _ _ _ _ ho10 hnq hr10 _ _ _ _ _ _ (H6c.out.later hb10))
        have HB10 := hid hb10
        clear ho10 hs10 hb10
        go_wp2_with fail
        refine C13.out.mono ?_
        rintro e w11 ⟨rfl, hb11⟩
        have HB11 := hid hb11
        clear hb11
        go_wp2
        go_ret
        exact ⟨rfl, (HB6.out.trans (HB10.out.mono HB6.out.size)).trans (HB11.out.mono (Nat.le_trans HB6.out.size HB10.out.size))⟩
      · subst hu3
        go_wp2_with fail
        go_loop [31] (fun vj => ∃ j : Nat, j ≤ K ∧ vj = .int .i64 j) (fun vj => K - (intOf vj).toNat)
        case atStart => exact ⟨0, by omega, rfl⟩
        case round =>
          obtain ⟨j, hj, rfl⟩ := hrel
          by_cases hlt : j < K
          · have hcj := hc3 j (by omega)
            unfold fD at hcj
            rw [HF.out j (by omega) hlt] at hcj
            clear hc3
            go_wp2
            go_round
            case rel => exact ⟨j + 1, by omega, by go_num⟩
            case measure => simp [intOf]; omega
          · obtain rfl : j = K := by omega
            by_cases hKn : j < qs.length
            · have hcj := hc3 j hKn
              unfold fD at hcj
              rw [HF2.out hKn] at hcj
              clear hc3
              go_wp2_with fail
              refine C10.out.mono ?_
              rintro e wa ⟨rfl, hwa⟩
              rw [hwa]; clear hwa wa C10
              go_wp2_with fail
              refine C11.out.mono ?_
              rintro e w9 ⟨rfl, hb9⟩
              have HB9 := hid hb9
              clear hb9 C11
              go_wp2_with fail
              refine (C12.out w9 HB9.out).mono ?_
              rintro e w10 ⟨rfl, ho10, hs10⟩
              have hb10 := Same.keeps (HB8.out.trans (HB9.out.mono HB8.out.size)) hs10 (Nat.le_of_lt hlb)
              have hr10 : W6.heap.size < w10.heap.size := by have := HB9.out.size; rw [hs10.size]; omega
              have C13 := hid (is_any w10 b W6.heap.size _ _ rfl _ _ _ _ _ ho10 hnq hr10 _ _ _ _ _ _ (H6c.out.later hb10))
              have HB10 := hid hb10
              clear ho10 hs10 hb10
              go_wp2_with fail
              refine C13.out.mono ?_
              rintro e w11 ⟨rfl, hb11⟩
              have HB11 := hid hb11
              clear hb11
              go_wp2
              go_ret
              exact ⟨rfl, (HB6.out.trans (HB10.out.mono HB6.out.size)).trans (HB11.out.mono (Nat.le_trans HB6.out.size HB10.out.size))⟩
            · clear hc3
              go_wp2_with fail
              refine C10.out.mono ?_
              rintro e wa ⟨rfl, hwa⟩
              rw [hwa]; clear hwa wa C10
              go_wp2_with fail
              refine C11.out.mono ?_
              rintro e w9 ⟨rfl, hb9⟩
              have HB9 := hid hb9
              clear hb9 C11
              go_wp2_with fail
              refine (C12.out w9 HB9.out).mono ?_
              rintro e w10 ⟨rfl, ho10, hs10⟩
              have hb10 := Same.keeps (HB8.out.trans (HB9.out.mono HB8.out.size)) hs10 (Nat.le_of_lt hlb)
              have hr10 : W6.heap.size < w10.heap.size := by have := HB9.out.size; rw [hs10.size]; omega
              have C13 := hid (is_any w10 b W6.heap.size _ _ rfl _ _ _ _ _ ho10 hnq hr10 _ _ _ _ _ _ (H6c.out.later hb10))
              have HB10 := hid hb10
              clear ho10 hs10 hb10
              go_wp2_with fail
              refine C13.out.mono ?_
              rintro e w11 ⟨rfl, hb11⟩
              have HB11 := hid hb11
              clear hb11
              go_wp2
              go_ret
              exact ⟨rfl, (HB6.out.trans (HB10.out.mono HB6.out.size)).trans (HB11.out.mono (Nat.le_trans HB6.out.size HB10.out.size))⟩

end Go.Proofs.Qxb6608625a
