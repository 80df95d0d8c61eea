import Derived.Test.Qxb6608511aMatch
import Derived.Test.Qxb6608511aSubst
import Derived.Test.Qxb6608511aFrom
/-
  What the law's own memory holds while it runs.
-/
namespace Go.Proofs.Qxb6608511a
open Go.RowKit
set_option linter.unusedVariables false

theorem info4 : (Try.prog.info? 4).map (fun i => (i.zero, i.size, i.bytes)) = some (some (.bool false), 1, 1) := by kernel_rfl
theorem make3 (w : World) (n : Nat) (h : n ≤ 4096) : (Instr.makeSlice 26 (.int .i64 n) (.int .i64 n)).run Try.prog w = .ok (.slice (some ⟨w.heap.size, 0, none⟩) n n) (w.alloc (.cells (madeCells #[.int .i64 0] n) 3)) := by
  cases hi : Try.prog.info? 3 with
  | none => have := info3; rw [hi] at this; cases this
  | some i =>
    have e := info3
    rw [hi] at e
    simp only [Option.map_some, Option.some.injEq, Prod.mk.injEq] at e
    have := run_make w 26 3 i _ Try.underlying26 hi e.1 .i64 .i64 n n (by omega) (Int.le_refl _) (by rw [e.2.2]; omega) (by omega)
    rw [this, e.2.1]
    simp [Value.cells]
theorem make4 (w : World) (n : Nat) (h : n ≤ 4096) : (Instr.makeSlice 34 (.int .i64 n) (.int .i64 n)).run Try.prog w = .ok (.slice (some ⟨w.heap.size, 0, none⟩) n n) (w.alloc (.cells (madeCells #[.bool false] n) 4)) := by
  cases hi : Try.prog.info? 4 with
  | none => have := info4; rw [hi] at this; cases this
  | some i =>
    have e := info4
    rw [hi] at e
    simp only [Option.map_some, Option.some.injEq, Prod.mk.injEq] at e
    have := run_make w 34 4 i _ Try.underlying34 hi e.1 .i64 .i64 n n (by omega) (Int.le_refl _) (by rw [e.2.2]; omega) (by omega)
    rw [this, e.2.1]
    simp [Value.cells]

theorem made_get {z : Array Value} {n k : Nat} (h : k < n) : (madeCells z n)[k]? = some (z[k % z.size]!) := by
  simp [madeCells, h]

theorem alloc_cell {w : World} {cur : Array Value} {e : TypeId} {k : Nat} : (w.alloc (.cells cur e)).cell? ⟨w.heap.size, k, none⟩ = cur[k]? := by
  have e : (w.alloc (.cells cur e)).heap[w.heap.size]? = some (.cells cur e) := by show (w.heap.push _)[w.heap.size]? = _; simp
  unfold World.cell?
  simp only [e]
  simp
theorem alloc_free {w : World} {cur : Array Value} {e : TypeId} {k : Nat} : (w.alloc (.cells cur e)).frozen? ⟨w.heap.size, k, none⟩ = false := by
  have e : (w.alloc (.cells cur e)).heap[w.heap.size]? = some (.cells cur e) := by show (w.heap.push _)[w.heap.size]? = _; simp
  unfold World.frozen?
  simp only [e]
  simp

/-- A new row of zero terms, all of them read. -/
theorem part_full (w : World) (n : Nat) (P : Nat → Prop) (d : Nat) : Part (w.alloc (.cells (zeros n) 24)) w.heap.size n n P (d + 1) (fun _ => zT) := by
  refine ⟨fun j hj => ⟨nodeV zT none 0, ⟨.int .u8 0, .string ⟨#[]⟩, .int .i64 0, .slice none 0 0, rfl, ?_, ?_, ?_, ?_⟩, zRep _ _ _ _ _⟩, fun k hk => ?_, fun k => alloc_free⟩
  · rw [alloc_cell, zeros, made_get (by omega)]
    have : j * 4 % 4 = 0 := by omega
    simp [this]
  · rw [alloc_cell, zeros, made_get (by omega)]
    have : (j * 4 + 1) % 4 = 1 := by omega
    simp [this]
  · rw [alloc_cell, zeros, made_get (by omega)]
    have : (j * 4 + 2) % 4 = 2 := by omega
    simp [this]
  · rw [alloc_cell, zeros, made_get (by omega)]
    have : (j * 4 + 3) % 4 = 3 := by omega
    simp [this]
  · rw [alloc_cell, zeros, made_get hk]
    exact ⟨_, rfl⟩
theorem hav_zero (w : World) (n : Nat) : Hav (w.alloc (.cells (madeCells #[.bool false] n) 4)) w.heap.size n (fun _ => false) := by
  refine ⟨fun j hj => ?_, fun k => alloc_free⟩
  rw [alloc_cell, made_get hj]
  simp [Nat.mod_one]

/-- The trail's own array. -/
structure Arr (w : World) (A n : Nat) : Prop where
  ex : ∃ cur, w.heap[A]? = some (.cells cur 3 (0, 0)) ∧ cur.size = n
theorem Arr.made (w : World) (n : Nat) : Arr (w.alloc (.cells (madeCells #[.int .i64 0] n) 3)) w.heap.size n := ⟨⟨_, (by show (w.heap.push _)[w.heap.size]? = _; simp : _ = some (Obj.cells (madeCells #[.int .i64 0] n) 3 (0, 0))), size_madeCells _ _⟩⟩
theorem Arr.lt {w : World} {A n : Nat} (h : Arr w A n) : A < w.heap.size := by
  obtain ⟨cur, h1, _⟩ := h.ex
  by_cases hg : A < w.heap.size
  · exact hg
  · rw [Array.getElem?_eq_none (by omega)] at h1; cases h1
theorem Arr.cell {w : World} {A n k : Nat} (h : Arr w A n) (hk : k < n) : ∃ v, w.cell? ⟨A, k, none⟩ = some v := by
  obtain ⟨cur, h1, h2⟩ := h.ex
  exact ⟨cur[k]'(by omega), by simp [World.cell?, h1, h2, hk]⟩
theorem Arr.free {w : World} {A n k : Nat} (h : Arr w A n) : w.frozen? ⟨A, k, none⟩ = false := by
  obtain ⟨cur, h1, h2⟩ := h.ex
  simp [World.frozen?, h1]
theorem Arr.set {w : World} {A n k : Nat} (h : Arr w A n) (v : Value) : Arr (w.setCell ⟨A, k, none⟩ v) A n := by
  obtain ⟨cur, h1, h2⟩ := h.ex
  refine ⟨⟨cur.setIfInBounds k v, ?_, by simp [h2]⟩⟩
  simp [World.setCell, Array.getElem?_modify, h1]
theorem Arr.below {w w' : World} {A n : Nat} (h : Arr w A n) (hb : Below w.heap.size w w') : Arr w' A n := by
  obtain ⟨cur, h1, h2⟩ := h.ex
  exact ⟨⟨cur, by rw [hb.block A h.lt]; exact h1, h2⟩⟩
theorem Arr.tr {w : World} {T A n : Nat} (h : Arr w A n) (hn : n ≤ 4096) (hT : w.cell? ⟨T, 0, none⟩ = some (.slice (some ⟨A, 0, none⟩) n n)) (hF : w.frozen? ⟨T, 0, none⟩ = false) : Tr w T A n := by
  obtain ⟨cur, h1, h2⟩ := h.ex
  refine ⟨⟨n, cur.toList, hT, ?_, .inr ⟨A, n, cur, rfl, Nat.zero_le _, h1, Nat.le_refl _, by unfold maxLen; omega, by omega, ?_⟩⟩, hF⟩
  · simp [h2]
  · rw [List.take_of_length_le (by simp [h2])]

/-- The boxes of pattern and t, of their copies, and what these read as. -/
structure Mid (w0 w : World) (D : Nat) (p t : Tm) (pa : Option Addr) (pc : Nat) (ta : Option Addr) (tc : Nat) (xa : Option Addr) (xc : Nat) (ya : Option Addr) (yc : Nat) (B X1 X2 : Nat) : Prop where
  old : Below w0.heap.size w0 w
  f5 : Four w w0.heap.size 0 (nodeV p pa pc)
  f6 : Four w (w0.heap.size + 1) 0 (nodeV t ta tc)
  f10 : Four w X1 0 (nodeV p xa xc)
  f11 : Four w X2 0 (nodeV t ya yc)
  r10 : Rep w (fun g => B < g ∧ g < X2) (D + 1) p (nodeV p xa xc)
  r11 : Rep w (fun g => B < g ∧ g < X2) (D + 1) t (nodeV t ya yc)
  o1 : w0.heap.size + 1 < B
  o2 : B < X1
  o3 : X1 < X2
  o4 : X2 < w.heap.size

theorem Mid.but {w0 w w' : World} {D : Nat} {p t : Tm} {pa : Option Addr} {pc : Nat} {ta : Option Addr} {tc : Nat} {xa : Option Addr} {xc : Nat} {ya : Option Addr} {yc : Nat} {B X1 X2 : Nat} {X : Nat → Prop} (h : Mid w0 w D p t pa pc ta tc xa xc ya yc B X1 X2) (hb : But X w w') (hx : ∀ g, X g → g = B ∨ X2 < g) : Mid w0 w' D p t pa pc ta tc xa xc ya yc B X1 X2 := by
  have o1 := h.o1
  have o2 := h.o2
  have o3 := h.o3
  have o4 := h.o4
  have kk : ∀ g, g ≠ B → g ≤ X2 → w'.heap[g]? = w.heap[g]? := fun g h1 h2 => hb.block g (by omega) (fun x => by rcases hx g x with e | e <;> omega)
  refine ⟨⟨hb.os.trans h.old.os, hb.tape.trans h.old.tape, hb.output.trans h.old.output, Nat.le_trans h.old.size hb.size, fun g hg => (kk g (by omega) (by omega)).trans (h.old.block g hg)⟩, h.f5.carry (kk _ (by omega) (by omega)), h.f6.carry (kk _ (by omega) (by omega)), h.f10.carry (kk _ (by omega) (by omega)), h.f11.carry (kk _ (by omega) (by omega)), h.r10.carry (fun g hg _ => kk g (by omega) (by omega)), h.r11.carry (fun g hg _ => kk g (by omega) (by omega)), o1, o2, o3, Nat.lt_of_lt_of_le o4 hb.size⟩
theorem Mid.below {w0 w w' : World} {D : Nat} {p t : Tm} {pa : Option Addr} {pc : Nat} {ta : Option Addr} {tc : Nat} {xa : Option Addr} {xc : Nat} {ya : Option Addr} {yc : Nat} {B X1 X2 : Nat} (h : Mid w0 w D p t pa pc ta tc xa xc ya yc B X1 X2) (hb : Below w.heap.size w w') : Mid w0 w' D p t pa pc ta tc xa xc ya yc B X1 X2 :=
  h.but (X := fun _ => False) (But.of_below hb) (fun _ h => h.elim)

theorem Four.cells {w : World} {g o : Nat} {t : Tm} {a : Option Addr} {c : Nat} (h : Four w g o (nodeV t a c)) : w.cell? ⟨g, o, none⟩ = some (.int .u8 t.k) ∧ w.cell? ⟨g, o + 1, none⟩ = some (.string t.s) ∧ w.cell? ⟨g, o + 2, none⟩ = some (.int .i64 t.n) ∧ w.cell? ⟨g, o + 3, none⟩ = some (.slice a t.ts.length c) := by
  obtain ⟨w0, w1, w2, w3, e, y0, y1, y2, y3⟩ := h.ex
  unfold nodeV at e
  injection e with e
  simp at e
  obtain ⟨rfl, rfl, rfl, rfl⟩ := e
  exact ⟨y0, y1, y2, y3⟩

/-- One term of a full row, its cells. -/
theorem Part.one {w : World} {M n : Nat} {P : Nat → Prop} {d : Nat} {f : Nat → Tm} (h : Part w M n n P (d + 1) f) {j : Nat} (hj : j < n) : ∃ a c, Four w M (j * 4) (nodeV (f j) a c) ∧ Rep w P (d + 1) (f j) (nodeV (f j) a c) := by
  obtain ⟨u, hf, hr⟩ := h.done j hj
  obtain ⟨a, c, rfl, _⟩ := hr.opn
  exact ⟨a, c, hf, hr⟩
theorem Part.mono {w : World} {M n i : Nat} {P Q : Nat → Prop} {d : Nat} {f : Nat → Tm} (h : Part w M n i P d f) (hq : ∀ g, g < w.heap.size → P g → Q g) : Part w M n i Q d f :=
  ⟨fun j hj => by obtain ⟨u, hf, hr⟩ := h.done j hj; exact ⟨u, hf, hr.lt.mono (fun g hg => hq g hg.2 hg.1)⟩, h.there, h.free⟩

/-- A list of the first n. -/
def listN (n : Nat) (L : Nat → Tm) : List Tm := (List.range n).map L
theorem len_listN (n : Nat) (L : Nat → Tm) : (listN n L).length = n := by simp [listN]
theorem at_listN {n : Nat} {L : Nat → Tm} {j : Nat} (h : j < n) : atL (listN n L) j = L j := by simp [listN, h]
/-- A full row is a row of a node. -/
theorem Part.rowRep {w : World} {M n : Nat} {P Q : Nat → Prop} {d : Nat} {f : Nat → Tm} (h : Part w M n n P d f) (hn : n ≤ 4096) (hq : ∀ g, P g → Q g) (hM : Q M) : Rep w Q (d + 1) (rowT (listN n f)) (nodeV (rowT (listN n f)) (some ⟨M, 0, none⟩) n) := by
  have e := len_listN n f
  refine ⟨_, _, rfl, by show (listN n f).length ≤ _; omega, by show (listN n f).length ≤ _; unfold big; omega, by show (0 : Int) ≤ 0; decide, by show (0 : Int) ≤ 255; decide, by show (-9223372036854775808 : Int) ≤ 0; decide, by show (0 : Int) ≤ 9223372036854775807; decide, by show (⟨#[]⟩ : ByteArray).size ≤ _; decide, .inr ⟨M, 0, rfl, hM, fun i hi => ?_⟩⟩
  have hi' : i < n := by rw [← e]; exact hi
  obtain ⟨u, hf, hr⟩ := h.done i hi'
  refine ⟨u, by simpa using hf, ?_⟩
  have e2 : (rowT (listN n f)).ts[i] = f i := by simp [listN]
  rw [e2]
  exact hr.mono hq

theorem WF.lt {nb : Nat} : ∀ {d : Nat} {p : Tm}, WF d 2 nb p → onV d (fun v => v < nb) p
  | 0, _, h => h.elim
  | d + 1, p, h => ⟨fun e => by have := h.vr e; omega, fun _ i hi => WF.lt (h.kid hi)⟩

/-- Some values for the free variables make the pattern t. -/
def Some' (D : Nat) (L : Nat → Tm) (p t : Tm) : Prop := ∃ τ, Ext L τ ∧ sbT (D + 1) τ p = t

/-- Where some values serve, subst serves. -/
theorem sub_yes {D : Nat} {L τ σ : Nat → Tm} {hv : Nat → Bool} {p t r : Tm} {ok : Bool} (hτ : Ext L τ) (ht : sbT (D + 1) τ p = t) (ha : ∀ j, hv j = true → σ j = τ j) (hc : onV (D + 1) (fun v => (L v).k = 3 → hv v = true) p) (h : SB (D + 1) L σ hv p ok r) : ok = true ∧ r = t := by
  have h1 := h.all hc
  refine ⟨h1, (h.yes h1).trans (Eq.trans (sbT_congr (hc.weak fun v hv3 => ?_)) ht)⟩
  unfold val
  by_cases e : (L v).k = 3
  · rw [if_pos e]; exact ha v (hv3 e)
  · rw [if_neg e]; exact (hτ v e).symm
theorem sub_no {D : Nat} {L σ : Nat → Tm} {hv : Nat → Bool} {p t r : Tm} {ok : Bool} (hn : ¬ Some' D L p t) (h : SB (D + 1) L σ hv p ok r) : ok = false ∨ r ≠ t := by
  cases ok with
  | false => exact .inl rfl
  | true =>
    refine .inr fun e => hn ⟨val L σ, fun j hj => ?_, (h.yes rfl).symm.trans e⟩
    unfold val
    rw [if_neg hj]
/-- match's answer. -/
theorem mt_yes {D : Nat} {L L' : Nat → Tm} {p t : Tm} {y : Bool} {s : Prop} (h : MT (D + 1) L p t y L' s) (hs : Some' D L p t) : y = true := by
  obtain ⟨τ, h1, h2⟩ := hs
  exact (h.all τ h1 h2).1
theorem mt_no {D : Nat} {L L' : Nat → Tm} {p t : Tm} {y : Bool} {s : Prop} (h : MT (D + 1) L p t y L' s) (hs : ¬ Some' D L p t) : y = false := by
  cases y with
  | false => rfl
  | true => exact absurd ⟨L', h.ext, (h.yes rfl).2⟩ hs
/-- The binding that match leaves makes the pattern t. -/
theorem sub_after {D n : Nat} {L L' σ : Nat → Tm} {p t r : Tm} {ok : Bool} {s : Prop} (hw : WF (D + 1) 2 n p) (h : MT (D + 1) L p t true L' s) (k : SB (D + 1) (atL (listN n L')) σ (fun _ => false) p ok r) : ok = true ∧ r = t := by
  obtain ⟨h1, h2⟩ := h.yes rfl
  have hb := hw.lt.and h1
  have h3 := k.all (hb.weak fun v hv e => by rw [at_listN hv.1] at e; exact absurd e hv.2)
  refine ⟨h3, (k.yes h3).trans (Eq.trans (sbT_congr (hb.weak fun v hv => ?_)) h2)⟩
  unfold val
  rw [at_listN hv.1, if_neg hv.2]
/-- The second match. -/
theorem mt_again {D : Nat} {L L' L2 : Nat → Tm} {p t : Tm} {y : Bool} {s s2 : Prop} (h : MT (D + 1) L p t true L' s) (k : MT (D + 1) L' p t y L2 s2) : y = true ∧ L2 = L' ∧ s2 := by
  obtain ⟨h1, h2⟩ := h.yes rfl
  exact ⟨(k.all L' (Ext.refl _) h2).1, k.stay h1⟩

end Go.Proofs.Qxb6608511a
