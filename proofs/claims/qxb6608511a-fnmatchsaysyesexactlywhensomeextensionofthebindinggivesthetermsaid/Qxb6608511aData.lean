import Derived.Test.Qxb6608511aTop
import Derived.SizedLaws
import Derived.ChangeArms
import Derived.OpenShut
/-
  The law's arguments, read as data, are trees.
-/
namespace Go.Proofs.Qxb6608511a
open Go.RowKit Go.WideShapes Go.ChangeShapes
set_option linter.unusedVariables false

theorem cells24 : Try.prog.cellsOf 24 = 4 := by kernel_rfl
theorem cells5 : Try.prog.cellsOf 5 = 1 := by kernel_rfl
theorem cells9 : Try.prog.cellsOf 9 = 1 := by kernel_rfl
theorem cells2 : Try.prog.cellsOf 2 = 1 := by kernel_rfl
theorem cells22 : Try.prog.cellsOf 22 = 1 := by kernel_rfl
theorem cells26 : Try.prog.cellsOf 26 = 1 := by kernel_rfl
theorem cells3 : Try.prog.cellsOf 3 = 1 := by kernel_rfl
theorem bytes24 : Try.prog.bytesOf 24 = 56 := by kernel_rfl

theorem cell_spot {w : World} {a : Addr} {v : Value} (h : w.cell? a = some v) : a = ⟨a.block, a.off, none⟩ := by
  obtain ⟨b, o, s⟩ := a
  cases s with
  | none => rfl
  | some s =>
    exfalso
    unfold World.cell? at h
    split at h
    · simp at h
    · cases h

theorem weightsAll_in {H : Type} {P : Program} {e : TypeId} : ∀ {l : List (DataW H)} {d : DataW H}, d ∈ l → ∀ n ∈ d.weights P e, n ∈ DataW.weightsAll P e l
  | x :: r, d, hd, n, hn => by
    simp only [DataW.weightsAll, List.mem_append]
    rcases List.mem_cons.1 hd with rfl | h
    · exact .inl hn
    · exact .inr (weightsAll_in h n hn)

section
variable {H : Type} {enc : TypeId × Value → H} {W : World}

/-- A struct that reads as a tree. -/
def Reads (enc : TypeId × Value → H) (W : World) (fuel : Nat) : Prop := ∀ (cs : List Value) (x : DataW H × List MemPlace), DataW.trod enc Try.prog W 0 (fun _ => true) true fuel 24 cs = some x → (∀ n ∈ x.1.weights Try.prog 24, n ≤ reachBytes) →
  ∃ t a c, cs = [.int .u8 t.k, .string t.s, .int .i64 t.n, .slice a t.ts.length c] ∧ Rep W (fun _ => True) fuel t (nodeV t a c)

theorem row_rep {m : Nat} (ih : Reads enc W m) {cs : List Value} {x : DataW H × List MemPlace} (h : DataW.trod enc Try.prog W 0 (fun _ => true) true (m + 1) 22 cs = some x) (hw : ∀ n ∈ x.1.weights Try.prog 22, n ≤ reachBytes) :
    ∃ (L : List Tm) (a : Option Addr) (c : Nat), cs = [.slice a L.length c] ∧ L.length ≤ c ∧ L.length ≤ big ∧ (L = [] ∨ ∃ g o, a = some ⟨g, o, none⟩ ∧ True ∧ ∀ i (hi : i < L.length), ∃ u, Four W g (o + i * 4) u ∧ Rep W (fun _ => True) m L[i] u) := by
  rcases DataW.trod_slice Try.underlying22 h with ⟨rfl, rfl⟩ | ⟨a, len, cap, elems, rest, n, hn, rfl, rfl, hb, hlc, hcm, hel, helem, _, _⟩
  · exact ⟨[], none, 0, rfl, Nat.le_refl _, Nat.zero_le _, .inl rfl⟩
  · obtain rfl : m = n := by omega
    have hsz : (elems.length + rest.length) * 56 ≤ reachBytes := by
      have := hw ((elems.length + rest.length) * 56) (by simp [DataW.weights, Try.underlying22, bytes24])
      exact this
    have hlb : len ≤ big := by unfold big; unfold reachBytes at hsz; omega
    by_cases h0 : len = 0
    · subst h0
      exact ⟨[], some a, cap, rfl, Nat.zero_le _, Nat.zero_le _, .inl rfl⟩
    have ea : a = ⟨a.block, a.off, none⟩ := by
      have he := helem 0 (by omega)
      rw [List.getElem?_eq_getElem (by omega : 0 < elems.length), cells24] at he
      obtain ⟨cs', hc, ht⟩ := Option.bind_eq_some_iff.1 he
      obtain ⟨_, hl, hcell⟩ := World.cells?_some hc
      have c0 := hcell 0 (by omega)
      rw [List.getElem?_eq_getElem (by omega : 0 < cs'.length)] at c0
      have e : ((a.add (0 * 4)).add 0) = a := by simp [Addr.add]
      rw [e] at c0
      exact cell_spot c0
    generalize a.block = ab at ea
    generalize a.off = ao at ea
    subst ea
    have hall : ∀ i, i < len → ∃ t, ∃ u, Four W ab (ao + i * 4) u ∧ Rep W (fun _ => True) m t u := by
      intro i hi
      have he := helem i hi
      have hi' : i < elems.length := by omega
      rw [List.getElem?_eq_getElem hi', cells24] at he
      obtain ⟨cs', hc, ht⟩ := Option.bind_eq_some_iff.1 he
      obtain ⟨_, hl, hcell⟩ := World.cells?_some hc
      obtain ⟨t, ta, tc, rfl, hr⟩ := ih cs' elems[i] ht (fun n hn => hw n (by
        simp only [DataW.weights, Try.underlying22, List.mem_cons, List.mem_append]
        exact .inr (.inl (weightsAll_in (List.mem_map_of_mem (List.getElem_mem hi')) n hn))))
      have c0 := hcell 0 (by omega)
      have c1 := hcell 1 (by omega)
      have c2 := hcell 2 (by omega)
      have c3 := hcell 3 (by omega)
      simp only [Addr.add_lit, List.getElem?_cons_zero, List.getElem?_cons_succ] at c0 c1 c2 c3
      exact ⟨t, _, ⟨_, _, _, _, rfl, c0, c1, c2, c3⟩, hr⟩
    refine ⟨listN len (fun i => if h : i < len then Classical.choose (hall i h) else zT), some ⟨ab, ao, none⟩, cap, by rw [len_listN], by rw [len_listN]; exact hlc, by rw [len_listN]; exact hlb, .inr ⟨ab, ao, rfl, trivial, fun i hi => ?_⟩⟩
    · have hi' : i < len := by rw [len_listN] at hi; exact hi
      obtain ⟨u, hf, hr⟩ := Classical.choose_spec (hall i hi')
      refine ⟨u, hf, ?_⟩
      simp only [listN, List.getElem_map, List.getElem_range, hi', dif_pos]
      exact hr

theorem z_rep : ∀ fuel, Reads enc W fuel
  | 0 => fun cs x h => by simp [DataW.trod] at h
  | 1 => fun cs x h _ => by
    obtain ⟨xs, n, hn, rfl, hlen, hxl, hf⟩ := DataW.trod_struct Try.underlying24 h
    obtain rfl : n = 0 := by omega
    have f0 := hf 0 _ rfl
    have : 0 < xs.length := by rw [hxl]; decide
    rw [List.getElem?_eq_getElem this] at f0
    simp [DataW.trod] at f0
  | m + 2 => fun cs x h hw => by
    have ih : Reads enc W m := z_rep m
    obtain ⟨xs, n, hn, rfl, hlen, hxl, hf⟩ := DataW.trod_struct Try.underlying24 h
    obtain rfl : n = m + 1 := by omega
    rw [cells24] at hlen
    have f0 := hf 0 _ rfl
    have f1 := hf 1 _ rfl
    have f2 := hf 2 _ rfl
    have f3 := hf 3 _ rfl
    match cs, hlen with
    | [c0, c1, c2, c3], _ =>
      match xs, hxl with
      | [x0, x1, x2, x3], _ =>
        simp [cells5, cells9, cells2, cells22] at f0 f1 f2 f3
        obtain ⟨k, e0, rfl, w0⟩ := DataW.trod_int Try.underlying5 f0
        obtain ⟨s, e1, rfl, _⟩ := DataW.trod_string Try.underlying9 f1
        obtain ⟨nn, e2, rfl, w2⟩ := DataW.trod_int Try.underlying2 f2
        have hx3 : ∀ n ∈ x3.1.weights Try.prog 22, n ≤ reachBytes := fun n hn => hw n (by
          simp only [DataW.weights, Try.underlying24]
          exact DataW.weights_mem_each (j := 3) (t := 22) rfl rfl n hn)
        have hx1 : s.size ≤ reachBytes := hw s.size (by
          simp only [DataW.weights, Try.underlying24]
          exact DataW.weights_mem_each (j := 1) (t := 9) (d := .lit (.string s.data.toList)) rfl rfl s.size (by simp [DataW.weights]))
        obtain ⟨L, a, c, e3, l1, l2, l3⟩ := row_rep ih f3 hx3
        simp at e0 e1 e2 e3
        subst e0 e1 e2 e3
        obtain ⟨b0, b1⟩ := bounds_u8 w0
        obtain ⟨b2, b3⟩ := bounds_i64 w2
        unfold reachBytes at hx1
        refine ⟨⟨k, s, nn, L⟩, a, c, rfl, ?_⟩
        refine ⟨a, c, rfl, l1, l2, b0, b1, b2, b3, by show s.size ≤ _; omega, ?_⟩
        rcases l3 with l3 | ⟨g, o, h1, h2, h3⟩
        · exact .inl l3
        · exact .inr ⟨g, o, h1, h2, fun i hi => by obtain ⟨u, hu, hr⟩ := h3 i hi; exact ⟨u, hu, hr.up⟩⟩

end

end Go.Proofs.Qxb6608511a
