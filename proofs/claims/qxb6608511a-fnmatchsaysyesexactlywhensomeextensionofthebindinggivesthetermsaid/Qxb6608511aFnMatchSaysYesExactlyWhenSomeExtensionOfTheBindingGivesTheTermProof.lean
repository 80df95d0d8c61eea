import Derived.Test.Qxb6608511aRows
import Derived.Test.Qxb6608511aData
import Derived.WalkKit
import Derived.ProofKit
import Derived.OpenShut
import Derived.ShutString
import Derived.ChangeOld
import Derived.Below
import Derived.SizedLaws
/-
  'Rows.FnMatchSaysYesExactlyWhenSomeExtensionOfTheBindingGivesTheTermSaid': the row's step round the walk 'top_any'.
-/
namespace Go.Proofs.Qxb6608511a.fnMatchSaysYesExactlyWhenSomeExtensionOfTheBindingGivesTheTerm
open Go.ChangeShapes Go.WideShapes Go.ChangeAt Go.RowKit
set_option linter.unusedVariables false

theorem own : ownKnob Try.prog.godebug = none := by kernel_rfl
theorem laidOut : laidOutB Try.prog = true := by kernel_rfl

theorem trail_open {H : Type} {enc : TypeId × Value → H} {W : World} {fuel : Nat} {pa : Option Addr} {x : DataW H × List MemPlace} (h : DataW.trod enc Try.prog W 0 (fun _ => true) true fuel 25 [.pointer pa] = some x) :
    pa = none ∨ ∃ tb tof oa lt ct, pa = some ⟨tb, tof, none⟩ ∧ W.cell? ⟨tb, tof, none⟩ = some (.slice oa lt ct) ∧ lt ≤ ct ∧ ∀ k, k < lt → ∃ g o x, oa = some ⟨g, o, none⟩ ∧ W.cell? ⟨g, o + k, none⟩ = some (.int .i64 x) := by
  rcases DataW.trod_pointer Try.underlying25 h with ⟨e, _⟩ | ⟨a, cs', y, n, _, e, _, hc, ht⟩
  · simp at e
    exact .inl e
  · simp at e
    subst e
    rw [cells26] at hc
    obtain ⟨_, hl, hcell⟩ := World.cells?_some hc
    have c0 := hcell 0 (by omega)
    have e0 : a.add 0 = a := by simp [Addr.add]
    rw [e0] at c0
    have fin : ∀ v, cs' = [v] → a = ⟨a.block, a.off, none⟩ ∧ W.cell? ⟨a.block, a.off, none⟩ = some v := by
      intro v hv
      subst hv
      simp at c0
      have sp := cell_spot c0
      exact ⟨sp, by rw [← sp]; exact c0⟩
    rcases DataW.trod_slice Try.underlying26 ht with ⟨rfl, _⟩ | ⟨b, len, cap, elems, rest, m, _, rfl, _, _, hlc, _, hel, helem, _, _⟩
    · obtain ⟨f1, f2⟩ := fin _ rfl
      exact .inr ⟨a.block, a.off, none, 0, 0, congrArg some f1, f2, Nat.le_refl _, fun k hk => absurd hk (Nat.not_lt_zero _)⟩
    · obtain ⟨f1, f2⟩ := fin _ rfl
      refine .inr ⟨a.block, a.off, some b, len, cap, congrArg some f1, f2, hlc, fun k hk => ?_⟩
      have one : ∀ k, k < len → ∃ x, W.cell? (b.add k) = some (.int .i64 x) := by
        intro k hk
        have he := helem k hk
        rw [List.getElem?_eq_getElem (by omega : k < elems.length), cells3, Nat.mul_one] at he
        obtain ⟨cs2, hc2, ht2⟩ := Option.bind_eq_some_iff.1 he
        obtain ⟨_, hl2, hcell2⟩ := World.cells?_some hc2
        obtain ⟨z, rfl, _, _⟩ := DataW.trod_int Try.underlying3 ht2
        have c2 := hcell2 0 (by omega)
        have e2 : (b.add k).add 0 = b.add k := by simp [Addr.add]
        rw [e2] at c2
        exact ⟨z, by simpa using c2⟩
      obtain ⟨_, h0⟩ := one 0 (by omega)
      have e3 : b.add 0 = b := by simp [Addr.add]
      rw [e3] at h0
      have sb := cell_spot h0
      obtain ⟨x, hx⟩ := one k hk
      rw [sb, Addr.add_lit] at hx
      exact ⟨b.block, b.off, x, congrArg some sb, hx⟩

theorem agg_of {cs : Array Value} {x0 x1 x2 x3 : Value} (h : (Value.agg cs).cells.toList = [x0, x1, x2, x3]) : Value.agg cs = .agg #[x0, x1, x2, x3] := by
  simp [Value.cells] at h
  cases cs
  simp at h
  rw [h]

set_option maxHeartbeats 1000000 in
set_option maxRecDepth 100000 in
theorem lifted (os : Os) (started : os.Started) (H : Type) (enc : TypeId × Value → H) :
    ReturnsInHanded {} Try.checked os 3 .any (Rows.fnMatchSaysYesExactlyWhenSomeExtensionOfTheBindingGivesTheTermSpec.pre6 enc Try.prog Try.f3 Rows.fnMatchSaysYesExactlyWhenSomeExtensionOfTheBindingGivesTheTermRow.domain false) (Rows.fnMatchSaysYesExactlyWhenSomeExtensionOfTheBindingGivesTheTermSpec.post enc Try.prog Try.f3 false true false false) := by
  refine returnsInHanded_of_change_sized (C := Try.checked) own started (by kernel_rfl) Try.func3
    (ChangeSpec.witness6 (enc := enc) (C := Try.checked) false ⟨#[], #[.slice none 0 0, .agg #[.int .u8 0, .string ⟨#[]⟩, .int .i64 0, .slice none 0 0], .agg #[.int .u8 0, .string ⟨#[]⟩, .int .i64 0, .slice none 0 0], .pointer none], []⟩ 8 (by kernel_rfl) (by kernel_rfl) (by kernel_rfl) (by kernel_rfl)) ?_
  intro W base args ds gs before hval0 hW hcnd hsz0 _
  have hval : ∀ (j : Nat) t v, Try.f3.params[j]? = some t → args[j]? = some v → Value.okWide Try.prog W .any base t v := hval0
  have hW' := hW
  obtain ⟨p, q, hA0, hV, rfl, hfz, hnd⟩ := hW
  have hA : DataW.TrodAll enc Try.prog W 0 (fun _ => true) true Try.f3.params.toList args.toList ds p := hA0
  have hsz : (DataW.weightsEach Try.prog (Try.f3.params.toList ++ Rows.fnMatchSaysYesExactlyWhenSomeExtensionOfTheBindingGivesTheTermSpec.plain.varTypes Try.prog) (ds ++ gs)).all (· ≤ reachBytes) = true := hsz0
  rw [Try.params3] at hA hval hsz
  obtain ⟨v0, vs0, d0, ds0, p0, q0, hargs, rfl, rfl, h0, r0⟩ := trodAll_cons hA
  obtain ⟨v1, vs1, d1, ds1, p1, q1, rfl, rfl, rfl, h1, r1⟩ := trodAll_cons r0
  obtain ⟨v2, vs2, d2, ds2, p2, q2, rfl, rfl, rfl, h2, r2⟩ := trodAll_cons r1
  obtain ⟨v3, vs3, d3, ds3, p3, q3, rfl, rfl, rfl, h3, r3⟩ := trodAll_cons r2
  obtain ⟨rfl, rfl, rfl⟩ := trodAll_nil r3
  obtain rfl : args = #[v0, v1, v2, v3] := by cases args; simp_all
  obtain ⟨rfl, rfl⟩ := trodVars_none hV
  obtain ⟨a0, len0, cap0, rfl⟩ := okWide_slice Try.underlying22 (hval 0 22 v0 rfl rfl)
  obtain ⟨cs1, rfl, _⟩ := okWide_struct Try.underlying24 (hval 1 24 v1 rfl rfl)
  obtain ⟨cs2, rfl, _⟩ := okWide_struct Try.underlying24 (hval 2 24 v2 rfl rfl)
  obtain ⟨a3, rfl⟩ := okWide_pointer Try.underlying25 (hval 3 25 v3 rfl rfl)
  have k0 := h0
  have lt0 : ∀ x ∈ p0, x.block < W.heap.size := by obtain ⟨m, hm⟩ := k0; exact DataW.trod_lt m _ _ _ hm
  have k1 := h1
  have lt1 : ∀ x ∈ p1, x.block < W.heap.size := by obtain ⟨m, hm⟩ := k1; exact DataW.trod_lt m _ _ _ hm
  have k2 := h2
  have lt2 : ∀ x ∈ p2, x.block < W.heap.size := by obtain ⟨m, hm⟩ := k2; exact DataW.trod_lt m _ _ _ hm
  have k3 := h3
  have lt3 : ∀ x ∈ p3, x.block < W.heap.size := by obtain ⟨m, hm⟩ := k3; exact DataW.trod_lt m _ _ _ hm
  have w0 : ∀ n ∈ d0.weights Try.prog 22, n ≤ reachBytes := fun n hn => of_decide_eq_true (List.all_eq_true.1 hsz n (DataW.weights_mem_each (j := 0) (t := 22) (d := d0) rfl rfl n hn))
  have w1 : ∀ n ∈ d1.weights Try.prog 24, n ≤ reachBytes := fun n hn => of_decide_eq_true (List.all_eq_true.1 hsz n (DataW.weights_mem_each (j := 1) (t := 24) (d := d1) rfl rfl n hn))
  have w2 : ∀ n ∈ d2.weights Try.prog 24, n ≤ reachBytes := fun n hn => of_decide_eq_true (List.all_eq_true.1 hsz n (DataW.weights_mem_each (j := 2) (t := 24) (d := d2) rfl rfl n hn))
  obtain ⟨f0, g0⟩ := h0
  obtain ⟨f1, g1⟩ := h1
  obtain ⟨f2, g2⟩ := h2
  obtain ⟨f3, g3⟩ := h3
  cases f0 with
  | zero => simp [DataW.trod] at g0
  | succ f0 =>
  obtain ⟨L, ra, rc, e0, l1, l2, l3⟩ := row_rep (z_rep f0) g0 w0
  obtain ⟨tp, pa, pc, e1, hp⟩ := z_rep f1 _ _ g1 w1
  obtain ⟨tt, ta, tc, e2, ht⟩ := z_rep f2 _ _ g2 w2
  have e1' := agg_of e1
  have e2' := agg_of e2
  simp [Value.cells] at e0
  obtain ⟨rfl, rfl, rfl⟩ := e0
  have HL : Rep W (fun _ => True) (f0 + f1 + f2 + 1 + 1) (rowT L) (nodeV (rowT L) a0 cap0) := by
    refine Rep.le (d := f0 + 1) ⟨a0, cap0, rfl, l1, l2, ?_, ?_, ?_, ?_, ?_, l3⟩ (by omega)
    · show (0 : Int) ≤ 0; decide
    · show (0 : Int) ≤ 255; decide
    · show (-9223372036854775808 : Int) ≤ 0; decide
    · show (0 : Int) ≤ 9223372036854775807; decide
    · show (⟨#[]⟩ : ByteArray).size ≤ _; decide
  have HP : Rep W (fun _ => True) (f0 + f1 + f2 + 1) tp (nodeV tp pa pc) := hp.le (by omega)
  have HT : Rep W (fun _ => True) (f0 + f1 + f2 + 1) tt (nodeV tt ta tc) := ht.le (by omega)
  have main : Calls Try.prog 3 #[.slice a0 L.length cap0, nodeV tp pa pc, nodeV tt ta tc, .pointer a3] W (Law W) := by
    by_cases hn : L.length ≤ 4096
    · rcases trail_open g3 with rfl | ⟨tb, tof, oa, lt, ct, rfl, hq, hct, hel⟩
      · exact top_nil L a0 cap0 tp tt pa pc ta tc W hn
      · by_cases hl : lt ≤ 4096
        · exact top_any (f0 + f1 + f2) L a0 cap0 tp tt pa pc ta tc W _ HL HP HT hn tb tof oa lt ct hq hl hct hel
        · exact top_long L a0 cap0 tp tt pa pc ta tc W hn tb tof oa lt ct hq (by omega)
    · exact top_big L a0 cap0 tp tt pa pc ta tc _ W (by omega)
  clear hA0 hval0 hsz0 hsz
  show Calls Try.prog 3 #[.slice a0 L.length cap0, .agg cs1, .agg cs2, .pointer a3] W _
  have ep : #[.slice a0 L.length cap0, .agg cs1, .agg cs2, .pointer a3] = #[.slice a0 L.length cap0, nodeV tp pa pc, nodeV tt ta tc, .pointer a3] := by rw [e1', e2']; rfl
  rw [ep]
  refine main.mono fun e W' ⟨he, bel⟩ => ?_
  subst he
  rw [← ep]
  exact ⟨_, rfl, _, _, _, [], _, [], hW', trodAll_mk1 (shut_bool Try.underlying4 _), (trodAll_cons_mk (Below.trod laidOut (by kernel_rfl) (of_decide_eq_true (by kernel_rfl)) k0 bel lt0) (trodAll_cons_mk (Below.trod laidOut (by kernel_rfl) (of_decide_eq_true (by kernel_rfl)) k1 bel lt1) (trodAll_cons_mk (Below.trod laidOut (by kernel_rfl) (of_decide_eq_true (by kernel_rfl)) k2 bel lt2) (trodAll_cons_mk (Below.trod laidOut (by kernel_rfl) (of_decide_eq_true (by kernel_rfl)) k3 bel lt3) trodAll_mk0)))), rfl, bel.frame _, fun h => by cases h⟩

theorem over : Rows.fnMatchSaysYesExactlyWhenSomeExtensionOfTheBindingGivesTheTermRow.holds Try.pinned (OpenSpec.ofChange Rows.fnMatchSaysYesExactlyWhenSomeExtensionOfTheBindingGivesTheTermSpec) :=
  OpenClaim.holds_of_wide 3 Try.f3 rfl rfl rfl rfl rfl rfl rfl ⟨rfl, rfl, rfl, rfl, rfl⟩ rfl rfl rfl rfl rfl (by kernel_rfl) Try.func3 (by kernel_rfl)
    (of_decide_eq_true (by kernel_rfl)) (by unfold Func.isWrapper; first | (rw [if_pos (by decide +kernel)]; kernel_rfl) | (rw [if_neg (by decide +kernel)]; exact ⟨rfl, rfl⟩))
    (fun os started H enc _ => lifted os started H enc)

/-- THE STATEMENT. -/
theorem proved : Rows.FnMatchSaysYesExactlyWhenSomeExtensionOfTheBindingGivesTheTermSaid := over
end Go.Proofs.Qxb6608511a.fnMatchSaysYesExactlyWhenSomeExtensionOfTheBindingGivesTheTerm
