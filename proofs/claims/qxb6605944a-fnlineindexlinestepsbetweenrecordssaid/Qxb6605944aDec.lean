import Derived.Test.Qxb6605944aRows
import Derived.Test.Qxb6605944aUv
import Derived.Test.Qxb6605944aLine
import Derived.WalkKit
import Derived.WalkSpells
import Derived.Deep.AppendLies
namespace Go.Proofs.Qxb6605944a
open Go.RowKit
set_option linter.unusedVariables false

theorem info2 : (Try.prog.info? 2).map (fun i => (i.zero, i.size, i.bytes)) = some (some (.int .i64 0), 1, 8) := by kernel_rfl

theorem uvarint_yes (g o n c i : Nat) (I : Int) (l : List UInt8) (w : World) (hl : l.length = n) (hn : n ≤ 65536) (hi : i ≤ n) (hI : I = (i : Int)) (hok : ok5 (l.drop i) = true) (hcell : ∀ j (hj : j < l.length), w.cell? ⟨g, o + j, none⟩ = some (.int .u8 (l[j]).toNat)) :
    Calls Try.prog 14 #[.slice (some ⟨g, o, none⟩) n c, .int .i64 I] w fun e w' => e = .returned (.tuple #[.int .u64 (uvV (l.drop i)), .int .i64 (uvN (l.drop i)), .bool true]) ∧ w' = w := by
  subst hI
  have := uvarint_any g o n c i l w hl hn hi hcell
  rw [uvRes_yes hok] at this
  exact this
theorem uvarint_no (g o n c i : Nat) (I : Int) (l : List UInt8) (w : World) (hl : l.length = n) (hn : n ≤ 65536) (hi : i ≤ n) (hI : I = (i : Int)) (hok : ok5 (l.drop i) = false) (hcell : ∀ j (hj : j < l.length), w.cell? ⟨g, o + j, none⟩ = some (.int .u8 (l[j]).toNat)) :
    Calls Try.prog 14 #[.slice (some ⟨g, o, none⟩) n c, .int .i64 I] w fun e w' => e = .returned (.tuple #[.int .u64 0, .int .i64 0, .bool false]) ∧ w' = w := by
  subst hI
  have := uvarint_any g o n c i l w hl hn hi hcell
  rw [uvRes_no hok] at this
  exact this

/-- Two values own no common block. -/
def Ap (v u : Value) : Prop := ∀ k, v.ownBlock = some k → u.ownBlock ≠ some k
theorem Ap.symm {v u : Value} (h : Ap v u) : Ap u v := fun k hk hv => h k hv hk
theorem Ap.ne {v u : Value} (h : Ap v u) : v.ownBlock = none ∨ v.ownBlock ≠ u.ownBlock := by
  cases hv : v.ownBlock with
  | none => exact .inl rfl
  | some k => exact .inr (fun hu => h k hv hu.symm)

def fsts (ps : List (Nat × Nat)) : List Value := ps.map fun p => .int .i64 (p.1 : Nat)
def snds (ps : List (Nat × Nat)) : List Value := ps.map fun p => .int .i64 (p.2 : Nat)

/-- One append of the round: what it leaves. -/
theorem app_step {H : Nat} {w wr w1 : World} {v u : Value} {n m : Nat} {xs ys : List Value} {o : Obj} {g cap : Nat} {news : List Value} (hv : wr.ownsRow H 2 1 v n xs) (hu : wr.ownsRow H 2 1 u m ys) (hap : Ap v u) (hb : Below H w wr) (hH : H ≤ wr.heap.size)
    (hown : w1.ownsRow H 2 1 (.slice (some ⟨g, 0, none⟩) (n + 1) cap) (n + 1) (xs ++ news)) (hgrow : (wr.alloc o).grownBy w1 v.ownBlock) (hat : v.ownBlock = some g ∨ g = wr.heap.size + 1) :
    w1.ownsRow H 2 1 u m ys ∧ Ap u (.slice (some ⟨g, 0, none⟩) (n + 1) cap) ∧ Below H w w1 ∧ H ≤ w1.heap.size := by
  have hul := hu.lt
  refine ⟨(hu.alloc o).kept hgrow hap.symm.ne, ?_, ?_, ?_⟩
  · intro k hk hg
    simp [Value.ownBlock] at hg
    subst hg
    rcases hat with h | h
    · exact hap _ h hk
    · have := (hul _ hk).2; omega
  · exact (hb.alloc hH o).grown hgrow (by simp; omega) (fun k hk => ((hv.lt) k hk).1)
  · have := hgrow.size; simp at this; omega

/-- The two slices hold the pairs: both nil, or both somewhere. -/
def View (w : World) (ps : List (Nat × Nat)) (v1 v2 : Value) : Prop :=
  (ps = [] ∧ v1 = .slice none 0 0 ∧ v2 = .slice none 0 0) ∨
  ∃ gs gc c1 c2, v1 = .slice (some ⟨gs, 0, none⟩) ps.length c1 ∧ v2 = .slice (some ⟨gc, 0, none⟩) ps.length c2 ∧
    (∀ j (hj : j < ps.length), w.cell? ⟨gs, j, none⟩ = some (.int .i64 ((ps[j]).1 : Nat))) ∧ (∀ j (hj : j < ps.length), w.cell? ⟨gc, j, none⟩ = some (.int .i64 ((ps[j]).2 : Nat)))

theorem View.later {w w' : World} {ps : List (Nat × Nat)} {v1 v2 : Value} (h : View w ps v1 v2) (hb : Below w.heap.size w w') : View w' ps v1 v2 := by
  rcases h with h | ⟨gs, gc, c1, c2, h1, h2, h3, h4⟩
  · exact .inl h
  · exact .inr ⟨gs, gc, c1, c2, h1, h2, fun j hj => cell_later hb (h3 j hj), fun j hj => cell_later hb (h4 j hj)⟩

theorem View.mk {w : World} {H : Nat} {ps : List (Nat × Nat)} {v1 v2 : Value} (h1 : w.ownsRow H 2 1 v1 ps.length (fsts ps)) (h2 : w.ownsRow H 2 1 v2 ps.length (snds ps)) (hnil : ps = [] → v1 = .slice none 0 0 ∧ v2 = .slice none 0 0) : View w ps v1 v2 := by
  by_cases hps : ps = []
  · exact .inl ⟨hps, hnil hps⟩
  · have hp : 0 < ps.length := List.length_pos_iff.2 hps
    obtain ⟨gs, c1, rfl, _, _⟩ := h1.form hp
    obtain ⟨gc, c2, rfl, _, _⟩ := h2.form hp
    refine .inr ⟨gs, gc, c1, c2, rfl, rfl, fun j hj => ?_, fun j hj => ?_⟩
    · rw [h1.cellAt j (by omega)]; simp [fsts, hj]
    · rw [h2.cellAt j (by omega)]; simp [snds, hj]

/-- What zzDecodeRuns gives: false; or the pairs, in two slices. -/
def DecPost (l : List UInt8) (w : World) (e : Ending) (w' : World) : Prop :=
  (e = .returned (.tuple #[.slice none 0 0, .slice none 0 0, .bool false]) ∧ Below w.heap.size w w') ∨
  ∃ (ps : List (Nat × Nat)) (v1 v2 : Value), e = .returned (.tuple #[v1, v2, .bool true]) ∧ Enc ps l [] ∧ Small ps ∧ View w' ps v1 v2 ∧ Below w.heap.size w w'

set_option maxHeartbeats 2000000 in
set_option maxRecDepth 100000 in
theorem dec_some (g o n c : Nat) (l : List UInt8) (w : World) (hl : l.length = n) (hn : n ≤ 65536) (hcell : ∀ j (hj : j < l.length), w.cell? ⟨g, o + j, none⟩ = some (.int .u8 (l[j]).toNat)) :
    Calls Try.prog 6 #[.slice (some ⟨g, o, none⟩) n c] w (DecPost l w) := by
  obtain ⟨i0, hi, hz0, hz1, hz2⟩ := info_parts info2
  go_enter Try.func6, Try.ntmps6
  go_wp2
  go_loopw [5, 6, 7] (fun v5 v6 v7 wr => ∃ (i : Nat) (ps : List (Nat × Nat)), i ≤ n ∧ v7 = .int .i64 i ∧ Enc ps l (l.drop i) ∧ Small ps ∧ wr.ownsRow w.heap.size 2 1 v5 ps.length (fsts ps) ∧ wr.ownsRow w.heap.size 2 1 v6 ps.length (snds ps) ∧ Ap v5 v6 ∧ Below w.heap.size w wr ∧ (ps = [] → v5 = .slice none 0 0 ∧ v6 = .slice none 0 0))
    (fun _ _ v7 _ => n - (intOf v7).toNat)
  case atStart => exact ⟨0, [], by omega, rfl, rfl, Small.nil, World.ownsRow_nil _ _ _ _, World.ownsRow_nil _ _ _ _, (fun k hk => by simp [Value.ownBlock] at hk), Below.refl _ _, fun _ => ⟨rfl, rfl⟩⟩
  case round =>
    obtain ⟨i, ps, hi1, rfl, hen, hsm, ho5, ho6, hap, hb, hnil0⟩ := hrel
    have hnil := hid hnil0
    clear hnil0
    have hlen := Enc.length _ _ _ hen
    have hc2 : ∀ j (hj : j < l.length), wr.cell? ⟨g, o + j, none⟩ = some (.int .u8 (l[j]).toNat) := fun j hj => cell_later hb (hcell j hj)
    by_cases hlt : i < n
    · cases hk1 : ok5 (l.drop i) with
      | false =>
        have HU1 := hid (uvarint_no g o n c i i l wr hl hn hi1 rfl hk1 hc2)
        have HB := hid hb
        clear hen ho5 ho6 hc2 hcell hk1 hb
        go_wp2_with fail
        refine HU1.out.mono ?_
        rintro e w1 ⟨rfl, rfl⟩
        go_wp2
        go_ret3
        exact .inl ⟨rfl, HB.out⟩
      | true =>
        have n1 := ok5_iff hk1
        have l1 := nx_length hk1
        have HU1 := hid (uvarint_yes g o n c i i l wr hl hn hi1 rfl hk1 hc2)
        have enx : nx (l.drop i) = l.drop (i + uvN (l.drop i)) := by unfold nx; simp
        simp only [List.length_drop] at n1 l1
        cases hk2 : ok5 (nx (l.drop i)) with
        | false =>
          have HU2 := hid (uvarint_no g o n c (i + uvN (l.drop i)) (i + uvN (l.drop i)) l wr hl hn (by omega) (by omega) (by rw [← enx]; exact hk2) hc2)
          have HB := hid hb
          clear hen ho5 ho6 hc2 hcell hk1 hb hk2 enx l1
          generalize uvN (l.drop i) = N1 at *
          generalize uvV (l.drop i) = V1 at *
          replace n1 := n1.2
          go_wp2_with fail
          refine HU1.out.mono ?_
          rintro e w1 ⟨rfl, rfl⟩
          go_wp2_with fail
          refine HU2.out.mono ?_
          rintro e w1 ⟨rfl, rfl⟩
          go_wp2
          go_ret3
          exact .inl ⟨rfl, HB.out⟩
        | true =>
          have n2 := ok5_iff hk2
          have l2 := nx_length hk2
          have HU2 := hid (uvarint_yes g o n c (i + uvN (l.drop i)) (i + uvN (l.drop i)) l wr hl hn (by omega) (by omega) (by rw [← enx]; exact hk2) hc2)
          have hen2 := Enc.snoc _ _ _ hen hk1 hk2
          have enx2 : nx (nx (l.drop i)) = l.drop (i + uvN (l.drop i) + uvN (nx (l.drop i))) := by unfold nx; simp [Nat.add_assoc]
          rw [enx2] at hen2
          rw [← enx] at HU2
          have hN2 : uvN (nx (l.drop i)) ≤ (nx (l.drop i)).length := n2.2.2.2
          have HB := hid hb
          have HE := hid hen2
          have hlps : 2 * ps.length ≤ n := by omega
          clear hen hc2 hcell hk1 hb hk2 enx enx2 hen2 hlen
          generalize (nx (l.drop i)).length = L2 at *
          generalize uvN (l.drop i) = N1 at *
          generalize uvV (l.drop i) = V1 at *
          generalize uvN (nx (l.drop i)) = N2 at *
          generalize uvV (nx (l.drop i)) = V2 at *
          replace n1 := n1.2
          replace n2 := n2.2
          by_cases hV1 : V1 ≤ 1073741824
          · by_cases hV2 : V2 ≤ 2147483648
            · go_wp2_with fail
              refine HU1.out.mono ?_
              rintro e wa ⟨rfl, hwa⟩
              rw [hwa]
              clear hwa wa
              go_wp2_with fail
              refine HU2.out.mono ?_
              rintro e wa ⟨rfl, hwa⟩
              rw [hwa]
              clear hwa wa HU1 HU2
              have hsz : w.heap.size ≤ wr.heap.size := HB.out.size
              go_wp2_with (first
                | (at_builtin; refine wpList_append_lies _ rfl (.tmp 48) (.tmp 51) 24 rfl w.heap.size 2 i0 (.int .i64 0) 1 8 Try.underlying24 hi hz0 hz1 hz2 rfl (by omega) u5 ps.length (fsts ps) rfl (ho5.alloc _) ⟨wr.heap.size, 0, none⟩ 1 1 [.int .i64 (V1 : Nat)] rfl rfl (cell_one_new _ _ _) (by intro u hu; simp at hu; subst hu; rfl) (by omega) (by unfold maxLen; omega) (by omega) (by simp; omega) (wr.heap.size + 1) (by simp) ?_; intro g1 cap1 w1 hown1 hgrow1 hat1 hlt1; have R1 := hid (app_step ho5 ho6 hap HB.out hsz hown1 hgrow1 hat1))
                | (at_builtin; refine wpList_append_lies _ rfl (.tmp 53) (.tmp 56) 24 rfl w.heap.size 2 i0 (.int .i64 0) 1 8 Try.underlying24 hi hz0 hz1 hz2 rfl (by omega) u6 ps.length (snds ps) rfl (R1.out.1.alloc _) ⟨w1.heap.size, 0, none⟩ 1 1 [.int .i64 (V2 : Nat)] rfl rfl (cell_one_new _ _ _) (by intro u hu; simp at hu; subst hu; rfl) (by omega) (by unfold maxLen; omega) (by omega) (by have := R1.out.2.2.2; simp; omega) (w1.heap.size + 1) (by simp) ?_; intro g2 cap2 w2 hown2 hgrow2 hat2 hlt2))
              have R2 := hid (app_step R1.out.1 hown1 R1.out.2.1 R1.out.2.2.1 R1.out.2.2.2 hown2 hgrow2 hat2)
              have E1 : fsts (ps ++ [(V1, V2)]) = fsts ps ++ [.int .i64 (V1 : Nat)] := by simp [fsts]
              have E2 : snds (ps ++ [(V1, V2)]) = snds ps ++ [.int .i64 (V2 : Nat)] := by simp [snds]
              have O1 : Hid (w2.ownsRow w.heap.size 2 1 (.slice (some ⟨g1, 0, none⟩) (ps.length + 1) cap1) (ps ++ [(V1, V2)]).length (fsts (ps ++ [(V1, V2)]))) := by
                rw [E1, List.length_append]; exact R2.out.1
              have O2 : Hid (w2.ownsRow w.heap.size 2 1 (.slice (some ⟨g2, 0, none⟩) (ps.length + 1) cap2) (ps ++ [(V1, V2)]).length (snds (ps ++ [(V1, V2)]))) := by
                rw [E2, List.length_append]; exact hown2
              clear E1 E2 hown1 hown2 hgrow1 hgrow2 hat1 hat2 ho5 ho6 hi hz0 hz1 hz2 hap
              go_wp2
              go_roundw
              case rel => exact ⟨i + N1 + N2, ps ++ [(V1, V2)], by omega, by go_num, HE.out, hsm.snoc hV1 hV2, O1.out, O2.out, R2.out.2.1, R2.out.2.2.1, fun h => absurd h (by simp)⟩
              case measure => simp [intOf]; omega
            · go_wp2_with fail
              refine HU1.out.mono ?_
              rintro e w1 ⟨rfl, rfl⟩
              go_wp2_with fail
              refine HU2.out.mono ?_
              rintro e w1 ⟨rfl, rfl⟩
              go_wp2
              go_ret3
              exact .inl ⟨rfl, HB.out⟩
          · go_wp2_with fail
            refine HU1.out.mono ?_
            rintro e w1 ⟨rfl, rfl⟩
            go_wp2_with fail
            refine HU2.out.mono ?_
            rintro e w1 ⟨rfl, rfl⟩
            go_wp2
            go_ret3
            exact .inl ⟨rfl, HB.out⟩
    · obtain rfl : i = n := by omega
      have HE : Hid (Enc ps l []) := by
        rw [List.drop_eq_nil_of_le (by omega)] at hen
        exact hen
      have HB := hid hb
      have H5 := hid ho5
      have H6 := hid ho6
      clear hen hc2 hcell hb ho5 ho6 hi hz0 hz1 hz2
      go_wp2
      go_ret3
      exact .inr ⟨ps, _, _, rfl, HE.out, hsm, View.mk H5.out H6.out hnil.out, HB.out⟩

set_option maxHeartbeats 1000000 in
set_option maxRecDepth 100000 in
theorem dec_empty (a : Option Addr) (c : Nat) (w : World) :
    Calls Try.prog 6 #[.slice a 0 c] w (DecPost [] w) := by
  go_enter Try.func6, Try.ntmps6
  go_wp2
  refine wp_loop_rounds 1 ?_
  rw [rounds_succ]
  go_wp2
  go_ret3
  exact .inr ⟨[], _, _, rfl, rfl, Small.nil, .inl ⟨rfl, rfl, rfl⟩, Below.refl _ _⟩

/-- The bytes of a slice that came in: none; or they lie at an address. -/
def Bytes (w : World) (a : Option Addr) (l : List UInt8) : Prop := l = [] ∨ ∃ g o, a = some ⟨g, o, none⟩ ∧ ∀ j (hj : j < l.length), w.cell? ⟨g, o + j, none⟩ = some (.int .u8 (l[j]).toNat)

theorem dec_any (a : Option Addr) (n c : Nat) (l : List UInt8) (w : World) (hl : l.length = n) (hn : n ≤ 65536) (h : Bytes w a l) :
    Calls Try.prog 6 #[.slice a n c] w (DecPost l w) := by
  rcases h with rfl | ⟨g, o, rfl, hc⟩
  · simp at hl; subst hl; exact dec_empty a c w
  · exact dec_some g o n c l w hl hn hc
end Go.Proofs.Qxb6605944a
