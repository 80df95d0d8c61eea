import Derived.Test.Qxb6608511aVar
/-
  match (15) at a free variable.
-/
namespace Go.Proofs.Qxb6608511a
open Go.RowKit
set_option linter.unusedVariables false

/-- Behind the store into the binding. -/
theorem free_put {w W : World} {B T A n : Nat} {P : Nat → Prop} {D : Nat} {L : Nat → Tm} {c m : Nat} {q : Tm} {x0 x1 x2 x3 : Value} (h : MIn w B T A n P D L c) (hm : m < n) (hr : Rep w P (D + 1) q (.agg #[x0, x1, x2, x3])) (hb : Below (put4 w B (m * 4) x0 x1 x2 x3).heap.size (put4 w B (m * 4) x0 x1 x2 x3) W) :
    Part W B n n P (D + 1) (upd L m q) ∧ Tr W T A c ∧ But (fun g => g = B) w W := by
  have h2 : But (fun g => g = B) w (put4 w B (m * 4) x0 x1 x2 x3) := (But.refl _ w).put4 rfl
  have h3 := h.row.upd hm h.nB hr
  exact ⟨h3.carry (Nat.lt_of_lt_of_le h.ltB h2.size) hb, (h.tr.but h2 (fun e => h.bt e.symm) (fun e => h.ba e.symm)).but (X := fun _ => False) (But.of_below hb) (fun h => h) (fun h => h), h2.trans (But.of_below hb)⟩
theorem put4_size {w : World} {M o : Nat} {x0 x1 x2 x3 : Value} : (put4 w M o x0 x1 x2 x3).heap.size = w.heap.size := by simp [put4, World.setCell]

theorem trail_keep {W w8 : World} {T A : Nat} {o : Obj} {v : Value} (hT : W.cell? ⟨T, 0, none⟩ = some v) (hF : W.frozen? ⟨T, 0, none⟩ = false) (ta : T ≠ A) (hg : (W.drew.alloc o).grownBy w8 (some A)) : w8.cell? ⟨T, 0, none⟩ = some v ∧ w8.frozen? ⟨T, 0, none⟩ = false := by
  have lt := cell_lt hT
  have hb0 : Below W.heap.size W (W.drew.alloc o) := ((Below.refl _ _).drew).alloc (Nat.le_refl _) _
  have hb : w8.heap[T]? = W.heap[T]? := (hg.block T (Nat.lt_of_lt_of_le lt hb0.size) (fun e => ta (by injection e))).trans (hb0.block T lt)
  exact ⟨(World.cell?_of_block (w := W) (a := ⟨T, 0, none⟩) hb).trans hT, (World.frozen?_of_block (w := W) (a := ⟨T, 0, none⟩) hb).trans hF⟩

/-- Behind the append and the store of the trail. -/
theorem free_end {W w8 : World} {B T A n : Nat} {P : Nat → Prop} {D : Nat} {L : Nat → Tm} {c : Nat} {o : Obj} {A' cap' : Nat} {xs' : List Value} (hp : Part W B n n P D L) (ht : Tr W T A c) (hB : B < W.heap.size) (nT : ¬ P T) (nA : ¬ P A) (bt : B ≠ T) (ba : B ≠ A) (ta : T ≠ A) (lP : ∀ g, P g → g < W.heap.size)
    (hown : w8.ownsRow 0 3 1 (.slice (some ⟨A', 0, none⟩) (c + 1) cap') (c + 1) xs') (hg : (W.drew.alloc o).grownBy w8 (some A)) (hA : A' = A ∨ (W.drew.alloc o).heap.size ≤ A') :
    Part (w8.setCell ⟨T, 0, none⟩ (.slice (some ⟨A', 0, none⟩) (c + 1) cap')) B n n P D L ∧ Tr (w8.setCell ⟨T, 0, none⟩ (.slice (some ⟨A', 0, none⟩) (c + 1) cap')) T A' (c + 1) ∧ But (fun g => g = T ∨ g = A) W (w8.setCell ⟨T, 0, none⟩ (.slice (some ⟨A', 0, none⟩) (c + 1) cap')) ∧ W.heap.size ≤ w8.heap.size := by
  have hb0 : Below W.heap.size W (W.drew.alloc o) := ((Below.refl _ _).drew).alloc (Nat.le_refl _) _
  have h1 : But (fun g => g = A) (W.drew.alloc o) w8 := ⟨hg.os, hg.tape, hg.output, hg.size, fun g hl hx => hg.block g hl (fun e => hx (by injection e))⟩
  have h2 : But (fun g => g = A) W w8 := (But.of_below hb0).trans h1
  have hs : (W.drew.alloc o).heap.size = W.heap.size + 1 := by show (W.alloc o).heap.size = _; simp
  obtain ⟨lT, lA⟩ := ht.lt
  have h3 : But (fun g => g = T) w8 (w8.setCell ⟨T, 0, none⟩ (.slice (some ⟨A', 0, none⟩) (c + 1) cap')) := (But.refl (fun g => g = T) _).setCell (p := ⟨T, 0, none⟩) (Eq.refl T) _
  have hTA' : T ≠ A' := by
    rcases hA with e | e
    · rw [e]; exact ta
    · omega
  have hT8 : ∃ v, w8.cell? ⟨T, 0, none⟩ = some v := by
    obtain ⟨cap, xs, h4, _⟩ := ht.ex
    exact ⟨_, by rw [h2.cell (p := ⟨T, 0, none⟩) lT ta]; exact h4⟩
  obtain ⟨v8, hv8⟩ := hT8
  refine ⟨(hp.but hB h2 ba (fun g hg e => nA (by rw [← e]; exact hg))).but (Nat.lt_of_lt_of_le hB h2.size) h3 bt (fun g hg e => nT (by rw [← e]; exact hg)), ⟨⟨cap', xs', set_same hv8, ?_⟩, ?_⟩, ?_, h2.size⟩
  · refine ⟨hown.1, ?_⟩
    rcases hown.2 with ⟨e, _⟩ | ⟨g, cap2, cur, e, h5, h6, h7⟩
    · cases e
    · simp only [Value.slice.injEq, Option.some.injEq, Addr.mk.injEq, and_true, true_and] at e
      obtain ⟨rfl, rfl⟩ := e
      exact .inr ⟨A', cap', cur, rfl, h5, by rw [Below.heap_setCell _ _ _ _ (fun e => hTA' e.symm)]; exact h6, h7⟩
  · rw [set_frozen, h2.frozen (p := ⟨T, 0, none⟩) lT ta]; exact ht.free
  · exact (h2.trans2 (X := fun g => g = A) (Y := fun _ => False) (But.refl _ _) (fun _ _ h => h.elim)).trans2 (But.refl (fun _ => False) _) (fun _ _ h => h.elim) |> fun h => (⟨h.os, h.tape, h.output, h.size, fun g hl hx => h.block g hl (fun e => hx (.inr e))⟩ : But (fun g => g = T ∨ g = A) W w8).setCell (p := ⟨T, 0, none⟩) (.inl rfl) _

set_option maxHeartbeats 1000000 in
set_option maxRecDepth 100000 in
theorem match_free (d D : Nat) (B T A n : Nat) (P : Nat → Prop) (L : Nat → Tm) (c : Nat) (p q : Tm) (vp vq : Value) (w : World) (hp : Rep w P (d + 1) p vp) (hq : Rep w P (D + 1) q vq) (hwf : WF (d + 1) 2 n p) (hin : MIn w B T A n P D L c) (hk : p.k = 3) (m : Nat) (hm : p.n = m) (hl : (L m).k = 3) (hq3 : q.k ≠ 3) :
    Calls Try.prog 15 #[.slice (some ⟨B, 0, none⟩) n n, vp, vq, .pointer (some ⟨T, 0, none⟩)] w (MatchPost w B T A n P (d + 1) (D + 1) L c p q) := by
  obtain ⟨pa, pc, rfl, p1, p2, p3, p4, p5, p6, p7⟩ := hp.opn
  obtain ⟨ua, uc, rfl, t1, t2, t3, t4, t5, t6, t7⟩ := hq.opn
  have hk' : (p.k == 3) = true := by simp [hk]
  have hl' : ((L m).k != 3) = false := by simp [hl]
  have hmn : m < n := by have := hwf.vr hk; omega
  have hn4 := hin.n4
  have hB := hin.ltB
  obtain ⟨u, hf, hr⟩ := hin.row.done m hmn
  obtain ⟨xa, xc, rfl, _⟩ := hr.opn
  obtain ⟨w0, w1, w2, w3, e, y0, y1, y2, y3⟩ := hf.ex
  unfold nodeV at e
  injection e with e
  simp at e
  obtain ⟨rfl, rfl, rfl, rfl⟩ := e
  have f0 := hin.row.free (m * 4)
  have f1 := hin.row.free (m * 4 + 1)
  have f2 := hin.row.free (m * 4 + 2)
  have f3 := hin.row.free (m * 4 + 3)
  obtain ⟨cap, xs, hT, hown⟩ := hin.tr.ex
  have hTf := hin.tr.free
  obtain ⟨lT, lA⟩ := hin.tr.lt
  have hfr := fr_upd L q hq3 n m hmn hl
  have hc1 : c + 1 ≤ 8192 := by have := hin.small; omega
  have hbt : T ≠ B := fun e => hin.bt e.symm
  have hB1 : B < w.heap.size + 1 := by omega
  have hB2 : B < w.heap.size + 1 + 1 := by omega
  have hB3 : B < w.heap.size + 1 + 1 + 1 := by omega
  have hT1 : T < w.heap.size + 1 := by omega
  have hT2 : T < w.heap.size + 1 + 1 := by omega
  have hT3 : T < w.heap.size + 1 + 1 + 1 := by omega
  have HFR := hid hfr
  have HQR := hid hq
  have HK := hid hk
  have HM := hid hm
  have HL := hid hl
  have HQ3 := hid hq3
  have HI := hid hin
  have HOWN := hid hown
  clear hp hq hwf hin hk hl hr hf hq3 hfr hown
  unfold nodeV
  rw [hm]
  clear hm
  go_enter Try.func15, Try.ntmps15
  go_wp2_with fail
  obtain ⟨K1, K2, K3⟩ := free_put HI.out hmn HQR.out (bel_three _ (.cells #[.int .u8 p.k, .string p.s, .int .i64 m, .slice pa p.ts.length pc] 32) (.cells #[.int .u8 q.k, .string q.s, .int .i64 q.n, .slice ua q.ts.length uc] 32) (.cells #[.int .u8 (L m).k, .string (L m).s, .int .i64 (L m).n, .slice xa (L m).ts.length xc] 32))
  have g2 : ((((put4 w B (m * 4) (.int .u8 q.k) (.string q.s) (.int .i64 q.n) (.slice ua q.ts.length uc)).alloc (.cells #[.int .u8 p.k, .string p.s, .int .i64 m, .slice pa p.ts.length pc] 32)).alloc (.cells #[.int .u8 q.k, .string q.s, .int .i64 q.n, .slice ua q.ts.length uc] 32)).alloc (.cells #[.int .u8 (L m).k, .string (L m).s, .int .i64 (L m).n, .slice xa (L m).ts.length xc] 32)).cell? ⟨w.heap.size, 2, none⟩ = some (.int .i64 m) := by
    rw [← put4_size (w := w) (M := B) (o := m * 4) (x0 := .int .u8 q.k) (x1 := .string q.s) (x2 := .int .i64 q.n) (x3 := .slice ua q.ts.length uc)]
    simp [go_sem]
  have hsz := K3.size
  change Code.wp _ _ _ _ ((((put4 w B (m * 4) (.int .u8 q.k) (.string q.s) (.int .i64 q.n) (.slice ua q.ts.length uc)).alloc (.cells #[.int .u8 p.k, .string p.s, .int .i64 m, .slice pa p.ts.length pc] 32)).alloc (.cells #[.int .u8 q.k, .string q.s, .int .i64 q.n, .slice ua q.ts.length uc] 32)).alloc (.cells #[.int .u8 (L m).k, .string (L m).s, .int .i64 (L m).n, .slice xa (L m).ts.length xc] 32))
  generalize ((((put4 w B (m * 4) (.int .u8 q.k) (.string q.s) (.int .i64 q.n) (.slice ua q.ts.length uc)).alloc (.cells #[.int .u8 p.k, .string p.s, .int .i64 m, .slice pa p.ts.length pc] 32)).alloc (.cells #[.int .u8 q.k, .string q.s, .int .i64 q.n, .slice ua q.ts.length uc] 32)).alloc (.cells #[.int .u8 (L m).k, .string (L m).s, .int .i64 (L m).n, .slice xa (L m).ts.length xc] 32)) = W at *
  obtain ⟨cap2, xs2, tT, tO⟩ := K2.ex
  have tF := K2.free
  obtain ⟨lT2, lA2⟩ := K2.lt
  have HP1 := hid K1
  have HT2 := hid K2
  have HB3 := hid K3
  have HO := hid (show W.drew.ownsRow 0 3 1 (.slice (some ⟨A, 0, none⟩) c cap2) c xs2 from tO)
  have hta : T ≠ A := HI.out.ta
  clear K1 K2 K3 tO hT hTf y0 y1 y2 y3 f0 f1 f2 f3
  go_region_law (refine step_trail rfl (.tmp 35) (.tmp 38) rfl A c cap2 xs2 (by simp [Act.eval]) (HO.out.alloc _) ⟨W.heap.size, 0, none⟩ (.int .i64 m) (by simp [Act.eval]) (by simp [go_sem]) rfl hc1 ?_; intro A' cap' xs' w8 ho hg hA; have q1 := (trail_keep tT tF hta hg).1; have q2 := (trail_keep tT tF hta hg).2; have HO8 := hid ho; have HG8 := hid hg; have HA8 := hid hA; clear ho hg hA)
  all_goals
    go_wp2
    go_ret
    obtain ⟨E1, E2, E3, E4⟩ := free_end HP1.out HT2.out (Nat.lt_of_lt_of_le HI.out.ltB hsz) HI.out.nT HI.out.nA HI.out.bt HI.out.ba HI.out.ta (fun g hg => Nat.lt_of_lt_of_le (HI.out.ltP g hg) hsz) HO8.out HG8.out HA8.out
    refine ⟨true, upd L m q, c + 1, A', rfl, E1, E2, ?_, ?_, by have := HFR.out; omega, MT.free HK.out HM.out HL.out HQ3.out⟩
    · rcases HA8.out with h | h
      · exact .inl h
      · exact .inr (Nat.le_trans hsz (Nat.le_trans (bel_one W _).size h))
    · exact ⟨E3.os.trans HB3.out.os, E3.tape.trans HB3.out.tape, E3.output.trans HB3.out.output, Nat.le_trans HB3.out.size E3.size, fun g hg hx => (E3.block g (Nat.lt_of_lt_of_le hg hsz) (fun e => hx (.inr e))).trans (HB3.out.block g hg (fun e => hx (.inl e)))⟩

end Go.Proofs.Qxb6608511a
