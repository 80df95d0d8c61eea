import Derived.Test.Qxb6608992aNum
/-
  zzIncDecimal (13).
-/
namespace Go.Proofs.Qxb6608992a
open Go.RowKit
set_option linter.unusedVariables false

theorem info5 : (Try.prog.info? 5).map (fun i => (i.zero, i.size, i.bytes)) = some (some (.int .u8 0), 1, 1) := by kernel_rfl

def c8 (b : UInt8) : Value := .int .u8 (b.toNat : Nat)

theorem push_fold : ∀ (l : List UInt8) (s : ByteArray), ((l.map fun b => (b.toNat : Int)).foldl (fun r n => r.push (UInt8.ofNat n.toNat)) s) = ⟨s.data ++ l.toArray⟩
  | [], s => by simp
  | b :: l, s => by
    simp only [List.map_cons, List.foldl_cons]
    rw [push_fold l]
    have e : UInt8.ofNat ((b.toNat : Int).toNat) = b := by rw [Int.toNat_natCast]; exact UInt8.ofNat_toNat
    rw [e]
    show (⟨s.data.push b ++ l.toArray⟩ : ByteArray) = ⟨s.data ++ (b :: l).toArray⟩
    congr 1
    apply Array.ext'
    simp

/-- string(b) of bytes that lie in a row. -/
theorem conv_row (w : World) (g o n c : Nat) (bs : List UInt8) (hn : bs.length = n) (h : ∀ j (hj : j < bs.length), w.cell? ⟨g, o + j, none⟩ = some (c8 bs[j])) :
    (convert 33 9 (.slice (some ⟨g, o, none⟩) n c)).run Try.prog w = .ok (.string ⟨bs.toArray⟩) w := by
  subst hn
  rw [run_convert_bytes_string w 33 9 5 _ _ c Try.underlying33 Try.underlying5 Try.underlying9]
  have hl : (loadCells ⟨g, o, none⟩ bs.length).run Try.prog w = .ok ((bs.map fun b => (b.toNat : Int)).map (Value.int .u8)).toArray w := by
    have := run_loadCells_list (P := Try.prog) (w := w) ⟨g, o, none⟩ (bs.map c8) (fun j v hv => by
      obtain ⟨hj, rfl⟩ := List.getElem?_eq_some_iff.1 hv
      rw [Go.WideShapes.add_plain, h j (by simpa using hj)]
      simp)
    rw [List.length_map] at this
    rw [this, List.map_map]
    rfl
  rw [run_bytesToString w ⟨g, o, none⟩ bs.length c _ hl, push_fold]
  simp

theorem sfx_cons (d : UInt8) (t : List UInt8) : sfx (d :: t) = if d.toNat - 48 + (sfx t).2 = 10 then (48 :: (sfx t).1, 1) else (UInt8.ofNat (48 + (d.toNat - 48 + (sfx t).2)) :: (sfx t).1, 0) := rfl

theorem set_drop (xs : List Value) (k : Nat) (v : Value) (h : k < xs.length) : (xs.set k v).drop k = v :: xs.drop (k + 1) := by
  rw [List.drop_eq_getElem_cons (by simpa using h), List.drop_set_of_lt (by omega)]
  simp

set_option maxHeartbeats 2000000 in
set_option maxRecDepth 100000 in
theorem inc_any (a : ByteArray) (w : World) (ha : a.size ≤ 524288) (ha0 : 0 < a.size) (hd : allD a.data.toList = true) :
    Calls Try.prog 13 #[.string a] w fun e w' => e = .returned (.string ⟨(inc a.data.toList).toArray⟩) ∧ Below w.heap.size w w' := by
  obtain ⟨i0, hi, hz0, hz1, hz2⟩ := info_parts info5
  have ha1 : ¬ a = ByteArray.empty := fun e => by rw [e] at ha0; simp at ha0
  go_enter Try.func13, Try.ntmps13
  go_wp2_with (at_make; refine wpList_make_full _ rfl _ _ 33 rfl w.heap.size 5 i0 (.int .u8 0) 1 Try.underlying33 hi hz0 hz1 .i64 .i64 _ _ (a.size + 1) rfl rfl (by omega) (by omega) (by rw [hz2]; omega) (by unfold maxLen; omega) (by omega) ?_; intro w1 hown1 hgrow1)
  have hb1 : Below w.heap.size w w1 := (Below.refl _ _).grown hgrow1 (Nat.le_refl _) (fun k hk => by cases hk)
  clear hi hz0 hz1 hz2
  go_loopw [4, 5] (fun vc vi wr => ∃ (j : Nat) (xs : List Value), j ≤ a.size ∧ vi = .int .i64 ((j : Int) - 1) ∧ vc = .int .u8 ((sfx (a.data.toList.drop j)).2 : Nat) ∧ wr.ownsRow w.heap.size 5 1 (.slice (some ⟨w.heap.size, 0, none⟩) (a.size + 1) (a.size + 1)) (a.size + 1) xs ∧ xs.drop (j + 1) = (sfx (a.data.toList.drop j)).1.map c8 ∧ Below w.heap.size w wr)
    (fun _ vi _ => (intOf vi + 1).toNat)
  case atStart =>
    refine ⟨a.size, _, by omega, rfl, ?_, hown1, ?_, hb1⟩
    · rw [List.drop_eq_nil_of_le (by simp)]; rfl
    · rw [List.drop_eq_nil_of_le (by rw [hown1.1]; omega), List.drop_eq_nil_of_le (by simp)]; rfl
  case round =>
    obtain ⟨j, xs, hj, rfl, rfl, hown, hxs, hb⟩ := hrel
    have hlen : xs.length = (a.size + 1) * 1 := hown.1
    clear hown1 hgrow1 hb1
    by_cases hj0 : 0 < j
    · obtain ⟨i, rfl⟩ : ∃ i, j = i + 1 := ⟨j - 1, by omega⟩
      have hia : i < a.size := by omega
      have hdr := drop_byte a i hia
      have hdig : 48 ≤ a[i].toNat ∧ a[i].toNat ≤ 57 := by
        unfold allD at hd
        rw [List.all_eq_true] at hd
        have := hd a[i] (by rw [← List.take_append_drop i a.data.toList, hdr]; simp)
        exact of_decide_eq_true this
      have hsf := sfx_cons a[i] (a.data.toList.drop (i + 1))
      rw [← hdr] at hsf
      have hcar := sfx_carry (a.data.toList.drop (i + 1))
      have hc2 : ∃ v, wr.cell? ⟨w.heap.size, i + 1, none⟩ = some v := ⟨_, by rw [hown.cellAt (i + 1) (by omega)]; exact List.getElem?_eq_getElem (by omega)⟩
      obtain ⟨v0, hc2⟩ := hc2
      have hf2 := hown.frozenAt (i + 1)
      have HO := hid hown
      have HB := hid hb
      have HX := hid hxs
      have HSF := hid hsf
      obtain ⟨C, hC⟩ : ∃ C, (sfx (a.data.toList.drop (i + 1))).2 = C := ⟨_, rfl⟩
      rw [hC] at hcar HSF ⊢
      clear hown hb hxs hdr hsf hd hC
      by_cases hten : a[i].toNat - 48 + C = 10
      · have H1 := HSF.out
        rw [if_pos hten] at H1
        have HS := hid H1
        clear H1
        go_wp2
        go_roundw
        case rel =>
          refine ⟨i, _, by omega, rfl, by rw [HS.out]; rfl, (HO.out.stored (i + 1) _).1, ?_, HB.out.setCell (Nat.le_refl _) _⟩
          rw [set_drop xs (i + 1) _ (by omega), HX.out, HS.out]
          rfl
        case measure => simp [intOf]
      · have H1 := HSF.out
        rw [if_neg hten] at H1
        have HS := hid H1
        clear H1
        have hv : ((UInt8.ofNat (48 + (a[i].toNat - 48 + C))).toNat : Int) = 48 + ((a[i].toNat : Int) - 48 + (C : Int)) := by
          rw [UInt8.toNat_ofNat']
          omega
        have HV := hid hv
        clear hv
        go_wp2
        go_roundw
        case rel =>
          refine ⟨i, _, by omega, rfl, by rw [HS.out]; rfl, (HO.out.stored (i + 1) _).1, ?_, HB.out.setCell (Nat.le_refl _) _⟩
          rw [set_drop xs (i + 1) _ (by omega), HX.out, HS.out, List.map_cons]
          congr 1
          unfold c8
          rw [HV.out]
        case measure => simp [intOf]
    · obtain rfl : j = 0 := by omega
      rw [List.drop_zero] at hxs ⊢
      have hcar := sfx_carry a.data.toList
      have hsl := sfx_len a.data.toList
      have hla : a.data.toList.length = a.size := by simp
      have hcell : ∀ m (hm : m < (sfx a.data.toList).1.length), wr.cell? ⟨w.heap.size, 1 + m, none⟩ = some (c8 ((sfx a.data.toList).1[m])) := by
        intro m hm
        rw [hown.cellAt (1 + m) (by omega)]
        have := congrArg (fun l => l[m]?) hxs
        simp only [List.getElem?_drop, List.getElem?_map] at this
        rw [show 0 + 1 + m = 1 + m by omega] at this
        rw [this]
        simp [hm]
      have HINC : Hid (inc a.data.toList = if (sfx a.data.toList).2 = 1 then 49 :: (sfx a.data.toList).1 else (sfx a.data.toList).1) := rfl
      obtain ⟨v0, hc0⟩ : ∃ v, wr.cell? ⟨w.heap.size, 0, none⟩ = some v := ⟨_, by rw [hown.cellAt 0 (by omega)]; exact List.getElem?_eq_getElem (by omega)⟩
      have hf0 := hown.frozenAt 0
      have HB := hid hb
      have HC := hid hcell
      have HL : Hid ((sfx a.data.toList).1.length = a.size) := by show _ = _; rw [hsl, hla]
      obtain ⟨T, hT⟩ : ∃ T, (sfx a.data.toList).1 = T := ⟨_, rfl⟩
      obtain ⟨C, hC⟩ : ∃ C, (sfx a.data.toList).2 = C := ⟨_, rfl⟩
      have HC2 : Hid (∀ m (hm : m < T.length), wr.cell? ⟨w.heap.size, 1 + m, none⟩ = some (c8 T[m])) := by subst hT; exact HC.out
      have HL2 : Hid (T.length = a.size) := by subst hT; exact HL.out
      have HI2 : Hid (inc a.data.toList = if C = 1 then 49 :: T else T) := by subst hT; subst hC; exact HINC.out
      rw [hC] at hcar ⊢
      clear hown hxs hcell hsl hla hd hb HC HL HINC hT hC
      rcases hcar with rfl | rfl
      · have hcv := conv_row wr w.heap.size 1 a.size a.size T HL2.out HC2.out
        have HI3 : Hid (inc a.data.toList = T) := by
          have := HI2.out
          rw [if_neg (by omega)] at this
          exact this
        go_wp2
        go_ret
        exact ⟨by rw [HI3.out]; rfl, HB.out⟩
      · have hcv := conv_row (wr.setCell ⟨w.heap.size, 0, none⟩ (.int .u8 49)) w.heap.size 0 (a.size + 1) (a.size + 1) (49 :: T) (by rw [List.length_cons, HL2.out]) (fun m hm => by
          cases m with
          | zero => exact World.cell?_setCell_same' _ _ _ (by rw [hc0]; rfl)
          | succ m =>
            rw [World.cell?_setCell_other _ _ _ _ (by simp)]
            have := HC2.out m (by simpa using hm)
            rw [show 0 + (m + 1) = 1 + m by omega, this]
            simp)
        have HI3 : Hid (inc a.data.toList = 49 :: T) := by
          have := HI2.out
          rw [if_pos rfl] at this
          exact this
        go_wp2
        go_ret
        exact ⟨by rw [HI3.out]; rfl, HB.out.setCell (Nat.le_refl _) _⟩

end Go.Proofs.Qxb6608992a
