import Derived.Test.Qxb6608511aTm
import Derived.Deep.RegionHeld3
/-
  eqZ (9) and Term.equal (20): equality of trees.
-/
namespace Go.Proofs.Qxb6608511a
open Go.RowKit
set_option linter.unusedVariables false

theorem bel_startG {w w1 wr wz : World} {B : Nat} (h0 : Below w.heap.size w w1) (h : Below B w1 wr) (hB : w.heap.size ≤ B) (h2 : Below w.heap.size wr wz) : Below w.heap.size w wz :=
  h0.trans ((h.mono hB).trans h2)
theorem bel_roundG {w1 wr wa : World} {B : Nat} (h : Below B w1 wr) (hB : B ≤ w1.heap.size) (h2 : Below wr.heap.size wr wa) : Below B w1 wa :=
  h.trans (h2.mono (Nat.le_trans hB h.size))
theorem Rep.afterG {w w1 wr : World} {P : Nat → Prop} {d : Nat} {t : Tm} {v : Value} {B : Nat} (h : Rep w P d t v) (h0 : Below w.heap.size w w1) (hb : Below B w1 wr) (hB : w.heap.size ≤ B) : Rep wr P d t v :=
  h.below (h0.trans (hb.mono hB))
theorem Rep.drew {w : World} {P : Nat → Prop} {d : Nat} {t : Tm} {v : Value} (h : Rep w P d t v) : Rep w.drew P d t v := Rep.carry (w := w) (w' := w.drew) (fun _ _ _ => rfl) h
theorem bel_drew {w wa : World} (h : Below w.drew.heap.size w.drew wa) : Below w.heap.size w wa := ((Below.refl _ _).drew).trans h
theorem bel_one (w : World) (o : Obj) : Below w.heap.size w (w.alloc o) := (Below.refl _ _).alloc (Nat.le_refl _) _
theorem bel_two (w : World) (o1 o2 : Obj) : Below w.heap.size w ((w.alloc o1).alloc o2) := ((Below.refl _ _).alloc (Nat.le_refl _) _).alloc (by simp) _

/-- Equality of trees, by the depth. -/
def eqT : Nat → Tm → Tm → Bool
  | 0, _, _ => false
  | d + 1, a, b => decide (a.k = b.k) && decide (a.s = b.s) && decide (a.n = b.n) && decide (a.ts.length = b.ts.length) && (a.ts.zip b.ts).all fun p => eqT d p.1 p.2

/-- A tree of depth at most d. -/
def fit : Nat → Tm → Prop
  | 0, _ => False
  | d + 1, t => ∀ c ∈ t.ts, fit d c

theorem Rep.fit {w : World} {P : Nat → Prop} : ∀ {d : Nat} {t : Tm} {v : Value}, Rep w P d t v → fit d t
  | 0, _, _, h => h.elim
  | d + 1, t, v, h => by
    intro c hc
    obtain ⟨i, hi, rfl⟩ := List.getElem_of_mem hc
    obtain ⟨a, c, rfl, _⟩ := h.opn
    obtain ⟨_, _, _, _, _, _, _, _, _, _, _, _, _, r⟩ := h.kid hi
    exact r.fit

theorem zip_all_eq {α : Type} (f : α → α → Bool) : ∀ (xs ys : List α), xs.length = ys.length → (∀ x ∈ xs, ∀ y, f x y = true ↔ x = y) → ((xs.zip ys).all (fun p => f p.1 p.2) = true ↔ xs = ys)
  | [], [], _, _ => by simp
  | [], _ :: _, h, _ => by simp at h
  | _ :: _, [], h, _ => by simp at h
  | x :: xs, y :: ys, h, hf => by
    have ih := zip_all_eq f xs ys (by simpa using h) (fun z hz => hf z (List.mem_cons_of_mem _ hz))
    simp only [List.zip_cons_cons, List.all_cons, Bool.and_eq_true, List.cons.injEq, ih, hf x List.mem_cons_self y]

theorem eqT_iff : ∀ {d : Nat} {a : Tm}, fit d a → ∀ b, eqT d a b = true ↔ a = b
  | 0, a, h, _ => h.elim
  | d + 1, a, h, b => by
    unfold eqT
    simp only [Bool.and_eq_true, decide_eq_true_eq]
    constructor
    · rintro ⟨⟨⟨⟨h0, h1⟩, h2⟩, h3⟩, h4⟩
      exact Tm.ext' h0 h1 h2 ((zip_all_eq (eqT d) a.ts b.ts h3 (fun x hx y => eqT_iff (h x hx) y)).1 h4)
    · rintro rfl
      exact ⟨⟨⟨⟨rfl, rfl⟩, rfl⟩, rfl⟩, (zip_all_eq (eqT d) a.ts a.ts rfl (fun x hx y => eqT_iff (h x hx) y)).2 rfl⟩

/-- The children from place i on. -/
def eqK (d : Nat) (a b : Tm) (i : Nat) : Bool := ((a.ts.drop i).zip (b.ts.drop i)).all fun p => eqT d p.1 p.2
theorem eqK_step (d : Nat) (a b : Tm) (i : Nat) (h1 : i < a.ts.length) (h2 : i < b.ts.length) : eqK d a b i = (eqT d a.ts[i] b.ts[i] && eqK d a b (i + 1)) := by
  unfold eqK
  have e1 := List.drop_eq_getElem_cons h1
  have e2 := List.drop_eq_getElem_cons h2
  rw [e1, e2, List.zip_cons_cons, List.all_cons]
theorem eqK_end (d : Nat) (a b : Tm) (i : Nat) (h1 : ¬ i < a.ts.length) : eqK d a b i = true := by
  unfold eqK
  rw [List.drop_eq_nil_of_le (by omega)]
  simp
theorem eqT_top (d : Nat) (a b : Tm) (h0 : a.k = b.k) (h1 : a.s = b.s) (h2 : a.n = b.n) (h3 : a.ts.length = b.ts.length) : eqT (d + 1) a b = eqK d a b 0 := by
  unfold eqT eqK
  simp [h0, h1, h2, h3]

theorem ret_bool {a b : Bool} (h : a = b) : Ending.returned (.bool a) = .returned (.bool b) := by rw [h]

set_option maxHeartbeats 4000000 in
set_option maxRecDepth 100000 in
theorem eqZ_any : ∀ (d : Nat) (t u : Tm) (v y : Value) (w : World) (P Q : Nat → Prop), Rep w P d t v → Rep w Q d u y →
    Calls Try.prog 9 #[v, y] w fun e w' => e = .returned (.bool (eqT d t u)) ∧ Below w.heap.size w w'
  | 0, _, _, _, _, _, _, _, h, _ => h.elim
  | d + 1, t, u, v, y, w, P, Q, h, k => by
    have IH : Hid (∀ (t u : Tm) (v y : Value) (w : World) (P Q : Nat → Prop), Rep w P d t v → Rep w Q d u y →
      Calls Try.prog 9 #[v, y] w fun e w' => e = .returned (.bool (eqT d t u)) ∧ Below w.heap.size w w') := fun t u v y w P Q h k => eqZ_any d t u v y w P Q h k
    obtain ⟨a, c, rfl, h1, h2, h3, h4, h5, h6, h7⟩ := h.opn
    obtain ⟨a', c', rfl, k1, k2, k3, k4, k5, k6, k7⟩ := k.opn
    have HR := hid h
    have KR := hid k
    clear h k
    unfold big at h2 k2
    unfold nodeV
    by_cases e0 : t.k = u.k
    · have e0' : (t.k != u.k) = false := by simp [e0]
      have E0 := hid e0
      clear e0
      by_cases e1 : t.s = u.s
      · have e1' : (t.s.toList == u.s.toList) = true := by simp [e1]
        have e1'' : t.s.toList = u.s.toList := by rw [e1]
        have E1 := hid e1
        clear e1
        by_cases e2 : t.n = u.n
        · have e2' : (t.n != u.n) = false := by simp [e2]
          have E2 := hid e2
          clear e2
          by_cases e3 : t.ts.length = u.ts.length
          · have e3' : (((t.ts.length : Nat) : Int) != ((u.ts.length : Nat) : Int)) = false := by simp [e3]
            have HT : Hid (eqT (d + 1) t u = eqK d t u 0) := eqT_top d t u E0.out E1.out E2.out e3
            have E3 := hid e3
            clear e3
            go_enter Try.func9, Try.ntmps9
            go_wp2
            go_loopw [5] (fun v5 wc => ∃ i : Nat, v5 = .int .i64 i ∧ i ≤ t.ts.length ∧ eqT (d + 1) t u = eqK d t u i ∧ Below (w.heap.size + 2) ((w.alloc (.cells #[.int .u8 t.k, .string t.s, .int .i64 t.n, .slice a t.ts.length c] 24)).alloc (.cells #[.int .u8 u.k, .string u.s, .int .i64 u.n, .slice a' u.ts.length c'] 24)) wc) (fun v5 _ => t.ts.length - (intOf v5).toNat)
            case atStart => exact ⟨0, rfl, Nat.zero_le _, HT.out, Below.refl _ _⟩
            case round =>
              obtain ⟨i, rfl, hi, hK, hbel⟩ := hrel
              have b3 := hbel.cell (p := ⟨w.heap.size, 3, none⟩) (by simp)
              have b7 := hbel.cell (p := ⟨w.heap.size + 1, 3, none⟩) (by simp)
              simp [go_sem] at b3 b7
              have HB := hid hbel
              have HK := hid hK
              clear hK
              by_cases hlt : i < t.ts.length
              · have hlt2 : i < u.ts.length := by have := E3.out; omega
                obtain ⟨g, o, x0, x1, x2, x3, rfl, _, hg, c0, c1, c2, c3, hkid⟩ := (HR.out.afterG (bel_two w _ _) hbel (by omega)).kid hlt
                obtain ⟨g', o', y0, y1, y2, y3, rfl, _, hg', d0, d1, d2, d3, hkid'⟩ := (KR.out.afterG (bel_two w _ _) hbel (by omega)).kid hlt2
                have z0 : w.heap.size < wr.heap.size := by have := hbel.size; simp at this; omega
                have z1 : w.heap.size + 1 < wr.heap.size := by have := hbel.size; simp at this; omega
                have HKi := hid hkid
                have HKu := hid hkid'
                have HS := hid (eqK_step d t u i hlt hlt2)
                clear hkid hkid' hbel
                cases hb : eqT d t.ts[i] u.ts[i] with
                | false =>
                  have HE : Hid (eqT (d + 1) t u = false) := by show _ = _; rw [HK.out, HS.out, hb]; rfl
                  have C := hid (IH.out _ _ _ _ wr.drew P Q HKi.out.drew HKu.out.drew)
                  rw [hb] at C
                  clear hb
                  go_wp2_with fail
                  go_region_held3 (fun w' => w'.cell? ⟨w.heap.size, 3, none⟩ = some (.slice (some ⟨g, o, none⟩) t.ts.length c) ∧ w'.cell? ⟨w.heap.size + 1, 3, none⟩ = some (.slice (some ⟨g', o', none⟩) u.ts.length c') ∧ w'.cell? ⟨g, o + i * 4, none⟩ = some x0 ∧ w'.cell? ⟨g, o + i * 4 + 1, none⟩ = some x1 ∧ w'.cell? ⟨g, o + i * 4 + 2, none⟩ = some x2 ∧ w'.cell? ⟨g, o + i * 4 + 3, none⟩ = some x3 ∧ w'.cell? ⟨g', o' + i * 4, none⟩ = some y0 ∧ w'.cell? ⟨g', o' + i * 4 + 1, none⟩ = some y1 ∧ w'.cell? ⟨g', o' + i * 4 + 2, none⟩ = some y2 ∧ w'.cell? ⟨g', o' + i * 4 + 3, none⟩ = some y3) (first | go_keep | exact ⟨(hwa.cell z0).trans b3, (hwa.cell z1).trans b7, (hwa.cell hg).trans c0, (hwa.cell hg).trans c1, (hwa.cell hg).trans c2, (hwa.cell hg).trans c3, (hwa.cell hg').trans d0, (hwa.cell hg').trans d1, (hwa.cell hg').trans d2, (hwa.cell hg').trans d3⟩) (first | (go_at_call 9; refine C.out.mono ?_; rintro e wa ⟨rfl, hwa⟩))
                  have HA := hid hwa
                  clear hwa
                  go_wp2
                  go_ret
                  exact ⟨ret_bool HE.out.symm, bel_startG (bel_two w _ _) (bel_roundG HB.out (by simp) (bel_drew HA.out)) (by omega) (Below.refl _ _)⟩
                | true =>
                  have HE : Hid (eqT (d + 1) t u = eqK d t u (i + 1)) := by show _ = _; rw [HK.out, HS.out, hb]; rfl
                  have C := hid (IH.out _ _ _ _ wr.drew P Q HKi.out.drew HKu.out.drew)
                  rw [hb] at C
                  clear hb
                  go_wp2_with fail
                  go_region_held3 (fun w' => w'.cell? ⟨w.heap.size, 3, none⟩ = some (.slice (some ⟨g, o, none⟩) t.ts.length c) ∧ w'.cell? ⟨w.heap.size + 1, 3, none⟩ = some (.slice (some ⟨g', o', none⟩) u.ts.length c') ∧ w'.cell? ⟨g, o + i * 4, none⟩ = some x0 ∧ w'.cell? ⟨g, o + i * 4 + 1, none⟩ = some x1 ∧ w'.cell? ⟨g, o + i * 4 + 2, none⟩ = some x2 ∧ w'.cell? ⟨g, o + i * 4 + 3, none⟩ = some x3 ∧ w'.cell? ⟨g', o' + i * 4, none⟩ = some y0 ∧ w'.cell? ⟨g', o' + i * 4 + 1, none⟩ = some y1 ∧ w'.cell? ⟨g', o' + i * 4 + 2, none⟩ = some y2 ∧ w'.cell? ⟨g', o' + i * 4 + 3, none⟩ = some y3) (first | go_keep | exact ⟨(hwa.cell z0).trans b3, (hwa.cell z1).trans b7, (hwa.cell hg).trans c0, (hwa.cell hg).trans c1, (hwa.cell hg).trans c2, (hwa.cell hg).trans c3, (hwa.cell hg').trans d0, (hwa.cell hg').trans d1, (hwa.cell hg').trans d2, (hwa.cell hg').trans d3⟩) (first | (go_at_call 9; refine C.out.mono ?_; rintro e wa ⟨rfl, hwa⟩))
                  have HA := hid hwa
                  clear hwa
                  go_wp2
                  go_round
                  case rel => exact ⟨i + 1, by go_num, by omega, HE.out, bel_roundG HB.out (by simp) (bel_drew HA.out)⟩
                  case measure => simp [intOf]; omega
              · have HE : Hid (eqT (d + 1) t u = true) := by show _ = _; rw [HK.out, eqK_end d t u i hlt]
                clear hbel
                go_wp2
                go_ret
                exact ⟨ret_bool HE.out.symm, bel_startG (bel_two w _ _) HB.out (by omega) (Below.refl _ _)⟩
          · have e3' : (((t.ts.length : Nat) : Int) != ((u.ts.length : Nat) : Int)) = true := by simp; omega
            have HE : Hid (eqT (d + 1) t u = false) := by show _ = _; unfold eqT; simp [e3]
            clear e3
            go_enter Try.func9, Try.ntmps9
            go_wp2
            go_ret
            exact ⟨ret_bool HE.out.symm, bel_two _ _ _⟩
        · have e2' : (t.n != u.n) = true := by simp [e2]
          have HE : Hid (eqT (d + 1) t u = false) := by show _ = _; unfold eqT; simp [e2]
          clear e2
          go_enter Try.func9, Try.ntmps9
          go_wp2
          go_ret
          exact ⟨ret_bool HE.out.symm, bel_two _ _ _⟩
      · have e1' : (t.s.toList == u.s.toList) = false := by
          rw [ByteArray.toList_eq, ByteArray.toList_eq]
          simp only [beq_eq_false_iff_ne, ne_eq]
          exact fun h => e1 (Go.WideShapes.bytes_inj h)
        have HE : Hid (eqT (d + 1) t u = false) := by show _ = _; unfold eqT; simp [e1]
        clear e1
        go_enter Try.func9, Try.ntmps9
        go_wp2
        go_ret
        exact ⟨ret_bool HE.out.symm, bel_two _ _ _⟩
    · have e0' : (t.k != u.k) = true := by simp [e0]
      have HE : Hid (eqT (d + 1) t u = false) := by show _ = _; unfold eqT; simp [e0]
      clear e0
      go_enter Try.func9, Try.ntmps9
      go_wp2
      go_ret
      exact ⟨ret_bool HE.out.symm, bel_two _ _ _⟩

end Go.Proofs.Qxb6608511a
