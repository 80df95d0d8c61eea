import Derived.Test.Qxb6608511aEq
/-
  Term.equal (20).
-/
namespace Go.Proofs.Qxb6608511a
open Go.RowKit
set_option linter.unusedVariables false

theorem bel_alc {w wa : World} {o : Obj} (h : Below (w.alloc o).drew.heap.size (w.alloc o).drew wa) : Below w.heap.size w wa := ((bel_one w o).drew).trans (h.mono (by simp))
theorem alloc_old (w : World) (o : Obj) {p : Addr} (h : p.block < w.heap.size) : (w.alloc o).drew.cell? p = w.cell? p := ((bel_one w o).drew).cell h

set_option maxHeartbeats 4000000 in
set_option maxRecDepth 100000 in
theorem equal_any : ∀ (d : Nat) (t u : Tm) (v y : Value) (w : World) (P Q : Nat → Prop), Rep w P d t v → Rep w Q d u y →
    Calls Try.prog 20 #[v, y] w fun e w' => e = .returned (.bool (eqT d t u)) ∧ Below w.heap.size w w'
  | 0, _, _, _, _, _, _, _, h, _ => h.elim
  | d + 1, t, u, v, y, w, P, Q, h, k => by
    have IH : Hid (∀ (t u : Tm) (v y : Value) (w : World) (P Q : Nat → Prop), Rep w P d t v → Rep w Q d u y →
      Calls Try.prog 20 #[v, y] w fun e w' => e = .returned (.bool (eqT d t u)) ∧ Below w.heap.size w w') := fun t u v y w P Q h k => equal_any d t u v y w P Q h k
    obtain ⟨a, c, rfl, h1, h2, h3, h4, h5, h6, h7⟩ := h.opn
    obtain ⟨a', c', rfl, k1, k2, k3, k4, k5, k6, k7⟩ := k.opn
    have HR := hid h
    have KR := hid k
    clear h k
    unfold big at h2 k2
    unfold nodeV
    by_cases e0 : t.k = u.k
    · have e0' : (t.k != u.k) = false := by simp [e0]
      have E0 := hid e0
      clear e0
      by_cases e1 : t.s = u.s
      · have e1' : (t.s.toList == u.s.toList) = true := by simp [e1]
        have e1'' : t.s.toList = u.s.toList := by rw [e1]
        have E1 := hid e1
        clear e1
        by_cases e2 : t.n = u.n
        · have e2' : (t.n != u.n) = false := by simp [e2]
          have E2 := hid e2
          clear e2
          by_cases e3 : t.ts.length = u.ts.length
          · have e3' : (((t.ts.length : Nat) : Int) != ((u.ts.length : Nat) : Int)) = false := by simp [e3]
            have HT : Hid (eqT (d + 1) t u = eqK d t u 0) := eqT_top d t u E0.out E1.out E2.out e3
            have E3 := hid e3
            clear e3
            go_enter Try.func20, Try.ntmps20
            go_wp2
            go_loopw [38] (fun v5 wc => ∃ i : Nat, v5 = .int .i64 i ∧ i ≤ t.ts.length ∧ eqT (d + 1) t u = eqK d t u i ∧ Below (w.heap.size + 2) ((w.alloc (.cells #[.int .u8 t.k, .string t.s, .int .i64 t.n, .slice a t.ts.length c] 32)).alloc (.cells #[.int .u8 u.k, .string u.s, .int .i64 u.n, .slice a' u.ts.length c'] 32)) wc) (fun v5 _ => t.ts.length - (intOf v5).toNat)
            case atStart => exact ⟨0, rfl, Nat.zero_le _, HT.out, Below.refl _ _⟩
            case round =>
              obtain ⟨i, rfl, hi, hK, hbel⟩ := hrel
              have b3 := hbel.cell (p := ⟨w.heap.size, 3, none⟩) (by simp)
              have b7 := hbel.cell (p := ⟨w.heap.size + 1, 3, none⟩) (by simp)
              simp [go_sem] at b3 b7
              have HB := hid hbel
              have HK := hid hK
              clear hK
              by_cases hlt : i < t.ts.length
              · have hlt2 : i < u.ts.length := by have := E3.out; omega
                obtain ⟨q, g, o, b, e, hq, rfl, _, hg, c0, c1, c2, c3, hkid⟩ := (HR.out.afterG (bel_two w _ _) hbel (by omega)).kidV hlt
                obtain ⟨g', o', y0, y1, y2, y3, rfl, _, hg', d0, d1, d2, d3, hkid'⟩ := (KR.out.afterG (bel_two w _ _) hbel (by omega)).kid hlt2
                have z0 : w.heap.size < wr.heap.size := by have := hbel.size; simp at this; omega
                have z1 : w.heap.size + 1 < wr.heap.size := by have := hbel.size; simp at this; omega
                have HKi := hid hkid
                have HKu := hid hkid'
                have HS := hid (eqK_step d t u i hlt hlt2)
                rw [hq] at HS
                clear hq
                clear hkid hkid' hbel
                have n7 : (wr.alloc (.cells #[.int .u8 q.k, .string q.s, .int .i64 q.n, .slice b q.ts.length e] 32)).drew.cell? ⟨w.heap.size + 1, 3, none⟩ = _ := (alloc_old wr _ z1).trans b7
                have n0 : (wr.alloc (.cells #[.int .u8 q.k, .string q.s, .int .i64 q.n, .slice b q.ts.length e] 32)).drew.cell? ⟨wr.heap.size, 0, none⟩ = some (.int .u8 q.k) := by simp [go_sem]
                have n1 : (wr.alloc (.cells #[.int .u8 q.k, .string q.s, .int .i64 q.n, .slice b q.ts.length e] 32)).drew.cell? ⟨wr.heap.size, 1, none⟩ = some (.string q.s) := by simp [go_sem]
                have n2 : (wr.alloc (.cells #[.int .u8 q.k, .string q.s, .int .i64 q.n, .slice b q.ts.length e] 32)).drew.cell? ⟨wr.heap.size, 2, none⟩ = some (.int .i64 q.n) := by simp [go_sem]
                have n3 : (wr.alloc (.cells #[.int .u8 q.k, .string q.s, .int .i64 q.n, .slice b q.ts.length e] 32)).drew.cell? ⟨wr.heap.size, 3, none⟩ = some (.slice b q.ts.length e) := by simp [go_sem]
                have m0 : (wr.alloc (.cells #[.int .u8 q.k, .string q.s, .int .i64 q.n, .slice b q.ts.length e] 32)).drew.cell? ⟨g', o' + i * 4, none⟩ = _ := (alloc_old wr _ hg').trans d0
                have m1 : (wr.alloc (.cells #[.int .u8 q.k, .string q.s, .int .i64 q.n, .slice b q.ts.length e] 32)).drew.cell? ⟨g', o' + i * 4 + 1, none⟩ = _ := (alloc_old wr _ hg').trans d1
                have m2 : (wr.alloc (.cells #[.int .u8 q.k, .string q.s, .int .i64 q.n, .slice b q.ts.length e] 32)).drew.cell? ⟨g', o' + i * 4 + 2, none⟩ = _ := (alloc_old wr _ hg').trans d2
                have m3 : (wr.alloc (.cells #[.int .u8 q.k, .string q.s, .int .i64 q.n, .slice b q.ts.length e] 32)).drew.cell? ⟨g', o' + i * 4 + 3, none⟩ = _ := (alloc_old wr _ hg').trans d3
                have zu : w.heap.size + 1 < (wr.alloc (.cells #[.int .u8 q.k, .string q.s, .int .i64 q.n, .slice b q.ts.length e] 32)).drew.heap.size := by simp; omega
                have zn : wr.heap.size < (wr.alloc (.cells #[.int .u8 q.k, .string q.s, .int .i64 q.n, .slice b q.ts.length e] 32)).drew.heap.size := by simp
                have zg' : g' < (wr.alloc (.cells #[.int .u8 q.k, .string q.s, .int .i64 q.n, .slice b q.ts.length e] 32)).drew.heap.size := by simp; omega
                cases hb : eqT d q u.ts[i] with
                | false =>
                  have HE : Hid (eqT (d + 1) t u = false) := by show _ = _; rw [HK.out, HS.out, hb]; rfl
                  have C := hid (IH.out _ _ _ _ (wr.alloc (.cells #[.int .u8 q.k, .string q.s, .int .i64 q.n, .slice b q.ts.length e] 32)).drew P Q (HKi.out.below (bel_one wr _)).drew (HKu.out.below (bel_one wr _)).drew)
                  rw [hb] at C
                  clear hb
                  go_wp2
                  go_region_held3 (fun w' => w'.cell? ⟨w.heap.size + 1, 3, none⟩ = some (.slice (some ⟨g', o', none⟩) u.ts.length c') ∧ w'.cell? ⟨wr.heap.size, 0, none⟩ = some (.int .u8 q.k) ∧ w'.cell? ⟨wr.heap.size, 1, none⟩ = some (.string q.s) ∧ w'.cell? ⟨wr.heap.size, 2, none⟩ = some (.int .i64 q.n) ∧ w'.cell? ⟨wr.heap.size, 3, none⟩ = some (.slice b q.ts.length e) ∧ w'.cell? ⟨g', o' + i * 4, none⟩ = some y0 ∧ w'.cell? ⟨g', o' + i * 4 + 1, none⟩ = some y1 ∧ w'.cell? ⟨g', o' + i * 4 + 2, none⟩ = some y2 ∧ w'.cell? ⟨g', o' + i * 4 + 3, none⟩ = some y3) (first | go_keep | exact ⟨(hwa.cell zu).trans n7, (hwa.cell zn).trans n0, (hwa.cell zn).trans n1, (hwa.cell zn).trans n2, (hwa.cell zn).trans n3, (hwa.cell zg').trans m0, (hwa.cell zg').trans m1, (hwa.cell zg').trans m2, (hwa.cell zg').trans m3⟩) (first | (go_at_call 20; refine C.out.mono ?_; rintro e wa ⟨rfl, hwa⟩))
                  have HA := hid hwa
                  clear hwa
                  go_wp2
                  go_ret
                  exact ⟨ret_bool HE.out.symm, bel_startG (bel_two w _ _) (bel_roundG HB.out (by simp) (bel_alc HA.out)) (by omega) (Below.refl _ _)⟩
                | true =>
                  have HE : Hid (eqT (d + 1) t u = eqK d t u (i + 1)) := by show _ = _; rw [HK.out, HS.out, hb]; rfl
                  have C := hid (IH.out _ _ _ _ (wr.alloc (.cells #[.int .u8 q.k, .string q.s, .int .i64 q.n, .slice b q.ts.length e] 32)).drew P Q (HKi.out.below (bel_one wr _)).drew (HKu.out.below (bel_one wr _)).drew)
                  rw [hb] at C
                  clear hb
                  go_wp2
                  go_region_held3 (fun w' => w'.cell? ⟨w.heap.size + 1, 3, none⟩ = some (.slice (some ⟨g', o', none⟩) u.ts.length c') ∧ w'.cell? ⟨wr.heap.size, 0, none⟩ = some (.int .u8 q.k) ∧ w'.cell? ⟨wr.heap.size, 1, none⟩ = some (.string q.s) ∧ w'.cell? ⟨wr.heap.size, 2, none⟩ = some (.int .i64 q.n) ∧ w'.cell? ⟨wr.heap.size, 3, none⟩ = some (.slice b q.ts.length e) ∧ w'.cell? ⟨g', o' + i * 4, none⟩ = some y0 ∧ w'.cell? ⟨g', o' + i * 4 + 1, none⟩ = some y1 ∧ w'.cell? ⟨g', o' + i * 4 + 2, none⟩ = some y2 ∧ w'.cell? ⟨g', o' + i * 4 + 3, none⟩ = some y3) (first | go_keep | exact ⟨(hwa.cell zu).trans n7, (hwa.cell zn).trans n0, (hwa.cell zn).trans n1, (hwa.cell zn).trans n2, (hwa.cell zn).trans n3, (hwa.cell zg').trans m0, (hwa.cell zg').trans m1, (hwa.cell zg').trans m2, (hwa.cell zg').trans m3⟩) (first | (go_at_call 20; refine C.out.mono ?_; rintro e wa ⟨rfl, hwa⟩))
                  have HA := hid hwa
                  clear hwa
                  go_wp2
                  go_round
                  case rel => exact ⟨i + 1, by go_num, by omega, HE.out, bel_roundG HB.out (by simp) (bel_alc HA.out)⟩
                  case measure => simp [intOf]; omega
              · have HE : Hid (eqT (d + 1) t u = true) := by show _ = _; rw [HK.out, eqK_end d t u i hlt]
                clear hbel
                go_wp2
                go_ret
                exact ⟨ret_bool HE.out.symm, bel_startG (bel_two w _ _) HB.out (by omega) (Below.refl _ _)⟩
          · have e3' : (((t.ts.length : Nat) : Int) != ((u.ts.length : Nat) : Int)) = true := by simp; omega
            have HE : Hid (eqT (d + 1) t u = false) := by show _ = _; unfold eqT; simp [e3]
            clear e3
            go_enter Try.func20, Try.ntmps20
            go_wp2
            go_ret
            exact ⟨ret_bool HE.out.symm, bel_two _ _ _⟩
        · have e2' : (t.n != u.n) = true := by simp [e2]
          have HE : Hid (eqT (d + 1) t u = false) := by show _ = _; unfold eqT; simp [e2]
          clear e2
          go_enter Try.func20, Try.ntmps20
          go_wp2
          go_ret
          exact ⟨ret_bool HE.out.symm, bel_two _ _ _⟩
      · have e1' : (t.s.toList == u.s.toList) = false := by
          rw [ByteArray.toList_eq, ByteArray.toList_eq]
          simp only [beq_eq_false_iff_ne, ne_eq]
          exact fun h => e1 (Go.WideShapes.bytes_inj h)
        have HE : Hid (eqT (d + 1) t u = false) := by show _ = _; unfold eqT; simp [e1]
        clear e1
        go_enter Try.func20, Try.ntmps20
        go_wp2
        go_ret
        exact ⟨ret_bool HE.out.symm, bel_two _ _ _⟩
    · have e0' : (t.k != u.k) = true := by simp [e0]
      have HE : Hid (eqT (d + 1) t u = false) := by show _ = _; unfold eqT; simp [e0]
      clear e0
      go_enter Try.func20, Try.ntmps20
      go_wp2
      go_ret
      exact ⟨ret_bool HE.out.symm, bel_two _ _ _⟩

end Go.Proofs.Qxb6608511a
