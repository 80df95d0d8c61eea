import Derived.Test.Qxb6608625aKit
import Derived.Deep.LoopGhost
/-
  trim (function 16), ZZTrim (8), the small readers (9, 14, 15).
-/
namespace Go.Proofs.Qxb6608625a
open Go.RowKit
set_option linter.unusedVariables false

/-- The head's three cells stored anew. -/
theorem Ord.step {w : World} {b r : Nat} {qs : List Rq} {k : Nat} {base arr ov lost : Int} (h : Ord w b r qs k base arr ov lost) (hk : k < qs.length) (w' : World) (arr' base' : Int) (ao : Option Addr)
    (hao : k + 1 < qs.length → ao = some ⟨r, 6 * (k + 1), none⟩)
    (e0 : w'.cell? ⟨b, 0, none⟩ = some (.slice ao (qs.length - (k + 1)) (qs.length - (k + 1)))) (e1 : w'.cell? ⟨b, 1, none⟩ = some (.int .i64 base')) (e2 : w'.cell? ⟨b, 2, none⟩ = some (.int .i64 arr'))
    (e3 : w'.cell? ⟨b, 3, none⟩ = w.cell? ⟨b, 3, none⟩) (e4 : w'.cell? ⟨b, 4, none⟩ = w.cell? ⟨b, 4, none⟩) (ef : ∀ j, w'.frozen? ⟨b, j, none⟩ = w.frozen? ⟨b, j, none⟩) (er : w'.heap[r]? = w.heap[r]?) :
    Ord w' b r qs (k + 1) base' arr' ov lost := by
  obtain ⟨k_le, c0, c1, c2, c3, c4, fz, ne, qi, qb, qh, qd, qa, ql⟩ := h
  refine ⟨hk, ⟨ao, e0, hao⟩, e1, e2, e3.trans c3, e4.trans c4, fun j => (ef j).trans (fz j), ne, fun j hj => ?_, fun j hj => ?_, fun j hj => ?_, fun j hj => ?_, fun j hj => ?_, fun j hj => ?_⟩
  · rw [cellEq er]; exact qi j hj
  · rw [cellEq er]; exact qb j hj
  · rw [cellEq er]; exact qh j hj
  · rw [cellEq er]; exact qd j hj
  · rw [cellEq er]; exact qa j hj
  · rw [cellEq er]; exact ql j hj

/-- Only block b may have turned. -/
structure Same (b : Nat) (w w' : World) : Prop where
  os : w'.os = w.os
  tape : w'.tape = w.tape
  output : w'.output = w.output
  size : w'.heap.size = w.heap.size
  block : ∀ k, k ≠ b → w'.heap[k]? = w.heap[k]?
theorem Same.refl (b : Nat) (w : World) : Same b w w := ⟨rfl, rfl, rfl, rfl, fun _ _ => rfl⟩
theorem Same.trans {b : Nat} {x y z : World} (h : Same b x y) (g : Same b y z) : Same b x z := ⟨g.os.trans h.os, g.tape.trans h.tape, g.output.trans h.output, g.size.trans h.size, fun k hk => (g.block k hk).trans (h.block k hk)⟩
theorem Same.set {b : Nat} {x y : World} (h : Same b x y) (o : Nat) (v : Value) : Same b x (y.setCell ⟨b, o, none⟩ v) :=
  h.trans ⟨rfl, rfl, rfl, by simp [World.setCell], fun k hk => Below.heap_setCell _ _ _ _ hk⟩
theorem Same.below {b : Nat} {x y : World} (h : Same b x y) : Below b x y := ⟨h.os, h.tape, h.output, Nat.le_of_eq h.size.symm, fun k hk => h.block k (by omega)⟩

theorem setOther {w : World} {a b : Addr} {v : Value} (h : a ≠ b) : (w.setCell a v).cell? b = w.cell? b := World.cell?_setCell_other _ _ _ _ h
theorem setSame {w : World} {a : Addr} {v u : Value} (h : w.cell? a = some u) : (w.setCell a v).cell? a = some v := World.cell?_setCell_same _ _ _ h
theorem ne01 (b i j : Nat) (h : i ≠ j) : (⟨b, i, none⟩ : Addr) ≠ ⟨b, j, none⟩ := fun e => h (congrArg Addr.off e)
theorem isSomeSet {w : World} {p q : Addr} {x : Value} (h : (w.cell? q).isSome = true) : ((w.setCell p x).cell? q).isSome = true := by
  cases hq : w.cell? q with
  | none => rw [hq] at h; cases h
  | some v => obtain ⟨v', h'⟩ := cell?_setCell_some (p := p) (x := x) hq; rw [h']; rfl

theorem Ord.two {w : World} {b r : Nat} {qs : List Rq} {k : Nat} {base arr ov lost : Int} (h : Ord w b r qs k base arr ov lost) (hk : k < qs.length) (base' : Int) (ao : Option Addr) (n c : Nat) (hn : n = qs.length - (k + 1)) (hc : c = qs.length - (k + 1))
    (hao : k + 1 < qs.length → ao = some ⟨r, 6 * (k + 1), none⟩) :
    Ord ((w.setCell ⟨b, 0, none⟩ (.slice ao n c)).setCell ⟨b, 1, none⟩ (.int .i64 base')) b r qs (k + 1) base' arr ov lost := by
  subst hn; subst hc
  obtain ⟨a0, c0, _⟩ := h.c0
  refine h.step hk _ _ _ ao hao ?_ ?_ ?_ ?_ ?_ ?_ ?_
  · rw [setOther (ne01 b 1 0 (by omega)), setSame c0]
  · exact World.cell?_setCell_same' _ _ _ (isSomeSet (by rw [h.c1]; rfl))
  · rw [setOther (ne01 b 1 2 (by omega)), setOther (ne01 b 0 2 (by omega))]; exact h.c2
  · rw [setOther (ne01 b 1 3 (by omega)), setOther (ne01 b 0 3 (by omega))]
  · rw [setOther (ne01 b 1 4 (by omega)), setOther (ne01 b 0 4 (by omega))]
  · intro j; simp
  · rw [Below.heap_setCell _ _ _ _ h.ne.symm, Below.heap_setCell _ _ _ _ h.ne.symm]

theorem Ord.arr {w : World} {b r : Nat} {qs : List Rq} {k : Nat} {base arr ov lost : Int} (h : Ord w b r qs k base arr ov lost) (arr' : Int) : Ord (w.setCell ⟨b, 2, none⟩ (.int .i64 arr')) b r qs k base arr' ov lost := by
  obtain ⟨k_le, c0, c1, c2, c3, c4, fz, ne, qi, qb, qh, qd, qa, ql⟩ := h
  have er : (w.setCell ⟨b, 2, none⟩ (.int .i64 arr')).heap[r]? = w.heap[r]? := Below.heap_setCell _ _ _ _ ne.symm
  refine ⟨k_le, ?_, ?_, setSame c2, ?_, ?_, fun j => by simpa using fz j, ne, fun j hj => ?_, fun j hj => ?_, fun j hj => ?_, fun j hj => ?_, fun j hj => ?_, fun j hj => ?_⟩
  · rw [setOther (ne01 b 2 0 (by omega))]; exact c0
  · rw [setOther (ne01 b 2 1 (by omega))]; exact c1
  · rw [setOther (ne01 b 2 3 (by omega))]; exact c3
  · rw [setOther (ne01 b 2 4 (by omega))]; exact c4
  · rw [cellEq er]; exact qi j hj
  · rw [cellEq er]; exact qb j hj
  · rw [cellEq er]; exact qh j hj
  · rw [cellEq er]; exact qd j hj
  · rw [cellEq er]; exact qa j hj
  · rw [cellEq er]; exact ql j hj

set_option maxHeartbeats 2000000 in
set_option maxRecDepth 100000 in
theorem trim_any (w : World) (b r : Nat) (qs : List Rq) (k : Nat) (base arr ov lost : Int) (h : Ord w b r qs k base arr ov lost) (hn : qs.length ≤ 1048576) (ha : (cntA (qs.drop k) : Int) ≤ arr) (ha2 : arr ≤ 1048576) (hbase : -9223372036854775808 ≤ base ∧ base ≤ 9223372036854775807) :
    Calls Try.prog 16 #[.pointer (some ⟨b, 0, none⟩)] w fun e w' => e = .returned (.tuple #[]) ∧
      Ord w' b r qs (k + fr (qs.drop k)) (wrap64 (base + (fr (qs.drop k) : Nat))) (arr - (cntA ((qs.drop k).take (fr (qs.drop k))) : Nat)) ov lost ∧ Same b w w' := by
  go_enter Try.func16, Try.ntmps16
  go_wp2
  go_loopg [] (qs.length - k) (fun g wr => ∃ j : Nat, g = qs.length - (k + j) ∧ Ord wr b r qs (k + j) (wrap64 (base + (j : Nat))) (arr - (cntA ((qs.drop k).take j) : Nat)) ov lost ∧ j + fr (qs.drop (k + j)) = fr (qs.drop k) ∧ Same b w wr)
  case atStart =>
    refine ⟨0, rfl, ?_, by simp, Same.refl _ _⟩
    have e : wrap64 (base + ((0 : Nat) : Int)) = base := by unfold wrap64; omega
    rw [e]
    simpa [cntA] using h
  case round =>
    obtain ⟨j, rfl, ho, hfr, hs⟩ := hrel
    have HO := hid ho
    have HS := hid hs
    have HF := hid hfr
    obtain ⟨ao, c0, hao⟩ := ho.c0
    have c1 := ho.c1
    have c2 := ho.c2
    have f0 := ho.fz 0
    have f1 := ho.fz 1
    have f2 := ho.fz 2
    by_cases hlt : k + j < qs.length
    · obtain rfl := hao hlt
      have qd := ho.qd (k + j) hlt
      have qa := ho.qa (k + j) hlt
      have hdrop : qs.drop (k + j) = qs[k + j] :: qs.drop (k + j + 1) := List.drop_eq_getElem_cons hlt
      have htake : (qs.drop k).take (j + 1) = (qs.drop k).take j ++ [qs[k + j]] := by
        rw [List.take_succ_eq_append_getElem (by simp; omega)]
        simp
      have hcn : cntA ((qs.drop k).take (j + 1)) ≤ cntA (qs.drop k) := by
        have := cntA_append ((qs.drop k).take (j + 1)) ((qs.drop k).drop (j + 1))
        rw [List.take_append_drop] at this
        omega
      rw [hdrop] at hfr
      rw [htake, cntA_append] at hcn
      have HT := hid htake
      generalize hq : qs[k + j] = p at *
      have hne := ho.ne
      clear hdrop hfr ho h hs hao htake
      have hT2 : cntA ((qs.drop k).take (j + 1)) = cntA ((qs.drop k).take j) + cntA [p] := by rw [HT.out, cntA_append]
      have HT2 := hid hT2
      clear hT2
      have hFd : j + fr (p :: qs.drop (k + j + 1)) = fr (qs.drop k) := by
        have := HF.out
        rw [List.drop_eq_getElem_cons hlt, hq] at this
        exact this
      have HFd := hid hFd
      clear hFd hq
      obtain ⟨cj, hcj⟩ : ∃ cj, cntA ((qs.drop k).take j) = cj := ⟨_, rfl⟩
      obtain ⟨cj1, hcj1⟩ : ∃ cj1, cntA ((qs.drop k).take (j + 1)) = cj1 := ⟨_, rfl⟩
      rw [hcj] at hcn c2 HO HT2
      rw [hcj1] at HT2
      have HT3 := hid hcj
      have HT4 := hid hcj1
      clear hcj hcj1
      cases hd : p.d with
      | false =>
        rw [hd] at qd
        have HZ : Hid (fr (qs.drop k) = j) := by
          have := HFd.out
          rw [fr_no p _ hd] at this
          exact this.symm
        go_wp2
        go_end0
        refine ⟨rfl, ?_, HS.out⟩
        rw [HZ.out, HT3.out]
        exact HO.out
      | true =>
        rw [hd] at qd
        have HZ : Hid (j + 1 + fr (qs.drop (k + (j + 1))) = fr (qs.drop k)) := by
          have := HFd.out
          rw [fr_yes p _ hd] at this
          show j + 1 + fr (qs.drop (k + (j + 1))) = fr (qs.drop k)
          rw [show k + (j + 1) = k + j + 1 by omega]
          omega
        cases hA : p.a with
        | false =>
          rw [hA] at qa
          have HC : Hid (cj1 = cj) := by
            have := HT2.out
            simp [cntA, hA] at this
            exact this
          go_wp2
          all_goals
            go_roundg (qs.length - (k + (j + 1)))
            case measure => omega
            case rel =>
              refine ⟨j + 1, rfl, ?_, HZ.out, (HS.out.set 0 _).set 1 _⟩
              rw [← wrap_succ, HT4.out, HC.out]
              exact HO.out.two hlt _ _ _ _ (by omega) (by omega) (fun h => by first | omega | rfl)
        | true =>
          rw [hA] at qa
          have hC : cj1 = cj + 1 := by
            have := HT2.out
            simp [cntA, hA] at this
            exact this
          have HC := hid hC
          clear hC
          go_wp2
          all_goals
            go_roundg (qs.length - (k + (j + 1)))
            case measure => omega
            case rel =>
              refine ⟨j + 1, rfl, ?_, HZ.out, ((HS.out.set 2 _).set 0 _).set 1 _⟩
              rw [← wrap_succ, HT4.out, HC.out, show arr - ((cj + 1 : Nat) : Int) = arr - (cj : Int) - 1 by omega]
              exact (HO.out.arr _).two hlt _ _ _ _ (by omega) (by omega) (fun h => by first | omega | rfl)
    · have HZ : Hid (fr (qs.drop k) = j) := by
        have := HF.out
        rw [List.drop_eq_nil_of_le (by omega), fr_nil] at this
        exact this.symm
      have hz : qs.length - (k + j) = 0 := by omega
      rw [hz] at c0
      clear ho h hs hao
      go_wp2
      go_end0
      refine ⟨rfl, ?_, HS.out⟩
      rw [HZ.out]
      exact HO.out

set_option maxHeartbeats 2000000 in
set_option maxRecDepth 100000 in
theorem zztrim_any (w : World) (b r : Nat) (qs : List Rq) (k : Nat) (base arr ov lost : Int) (h : Ord w b r qs k base arr ov lost) (hn : qs.length ≤ 1048576) (ha : (cntA (qs.drop k) : Int) ≤ arr) (ha2 : arr ≤ 1048576) (hbase : -9223372036854775808 ≤ base ∧ base ≤ 9223372036854775807) :
    Calls Try.prog 8 #[.pointer (some ⟨b, 0, none⟩)] w fun e w' => e = .returned (.tuple #[]) ∧
      Ord w' b r qs (k + fr (qs.drop k)) (wrap64 (base + (fr (qs.drop k) : Nat))) (arr - (cntA ((qs.drop k).take (fr (qs.drop k))) : Nat)) ov lost ∧ Same b w w' := by
  have H := hid (trim_any w b r qs k base arr ov lost h hn ha ha2 hbase)
  clear h hn ha ha2 hbase
  go_enter Try.func8, Try.ntmps8
  go_wp2_with fail
  refine H.out.mono ?_
  rintro e w1 ⟨rfl, ho, hs⟩
  have HO := hid ho
  have HS := hid hs
  clear ho hs
  go_wp2
  go_end0
  exact ⟨rfl, HO.out, HS.out⟩

set_option maxHeartbeats 2000000 in
set_option maxRecDepth 100000 in
theorem len_any (w : World) (b r : Nat) (qs : List Rq) (k : Nat) (base arr ov lost : Int) (h : Ord w b r qs k base arr ov lost) :
    Calls Try.prog 9 #[.pointer (some ⟨b, 0, none⟩)] w fun e w' => e = .returned (.int .i64 ((qs.length - k : Nat) : Int)) ∧ w' = w := by
  obtain ⟨ao, c0, _⟩ := h.c0
  clear h
  go_enter Try.func9, Try.ntmps9
  go_wp2
  go_ret
  exact ⟨rfl, rfl⟩

set_option maxHeartbeats 2000000 in
set_option maxRecDepth 100000 in
theorem counts_any (w : World) (b r : Nat) (qs : List Rq) (k : Nat) (base arr ov lost : Int) (h : Ord w b r qs k base arr ov lost) :
    Calls Try.prog 14 #[.pointer (some ⟨b, 0, none⟩)] w fun e w' => e = .returned (.tuple #[.int .i64 base, .int .i64 arr, .int .i64 ov, .int .i64 lost]) ∧ ∃ q, w' = w.drewN q := by
  have c1 := h.c1
  have c2 := h.c2
  have c3 := h.c3
  have c4 := h.c4
  clear h
  go_enter Try.func14, Try.ntmps14
  go_wp2
  go_quiet (fail)
  go_wp2
  exact bodyPost_ret (v := .tuple #[.int .i64 base, .int .i64 arr, .int .i64 ov, .int .i64 lost]) (by simp [results, Try.results14, go_sem]) rfl ⟨rfl, _, rfl⟩

set_option maxHeartbeats 2000000 in
set_option maxRecDepth 100000 in
theorem req_any (w : World) (b r : Nat) (qs : List Rq) (k j : Nat) (J : Int) (hJ : J = j) (base arr ov lost : Int) (h : Ord w b r qs k base arr ov lost) (hj : k + j < qs.length) (hn : qs.length ≤ 1048576) :
    Calls Try.prog 15 #[.pointer (some ⟨b, 0, none⟩), .int .i64 J] w fun e w' => e = .returned (.tuple #[.int .u32 (qs[k + j]).i, .int .u32 (qs[k + j]).b, .int .i64 (qs[k + j]).h, .bool (qs[k + j]).d, .bool (qs[k + j]).a, .bool (qs[k + j]).l]) ∧ Below w.heap.size w w' := by
  subst hJ
  obtain ⟨ao, c0, hao⟩ := h.c0
  obtain rfl := hao (by omega)
  have i0 := h.qi (k + j) hj
  have i1 := h.qb (k + j) hj
  have i2 := h.qh (k + j) hj
  have i3 := h.qd (k + j) hj
  have i4 := h.qa (k + j) hj
  have i5 := h.ql (k + j) hj
  have eo : 6 * (k + j) = 6 * k + j * 6 := by omega
  rw [eo] at i0 i1 i2 i3 i4 i5
  generalize qs[k + j] = p at *
  have hlt : j < qs.length - k := by omega
  clear h hao eo
  go_enter Try.func15, Try.ntmps15
  go_wp2
  go_quiet (fail)
  go_wp2
  refine bodyPost_ret (v := .tuple #[.int .u32 p.i, .int .u32 p.b, .int .i64 p.h, .bool p.d, .bool p.a, .bool p.l]) (by simp [results, Try.results15, go_sem]) rfl ⟨rfl, ?_⟩
  exact ((Below.refl _ _).alloc (Nat.le_refl _) _).trans ⟨rfl, rfl, rfl, Nat.le_refl _, fun _ _ => rfl⟩
end Go.Proofs.Qxb6608625a
