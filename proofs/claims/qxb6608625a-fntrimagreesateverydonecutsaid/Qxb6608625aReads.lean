import Derived.Test.Qxb6608625aTrim
/-
  Rows that came in, or that the law has copied: zzCountTrue (10), zzReqsWellFormed (6).
-/
namespace Go.Proofs.Qxb6608625a
open Go.RowKit
set_option linter.unusedVariables false

/-- A slice value whose elements are xs: none; or they lie somewhere. -/
def Row (w : World) (v : Value) (xs : List Value) : Prop :=
  (xs = [] ∧ ∃ a c, v = .slice a 0 c) ∨ ∃ g o c, v = .slice (some ⟨g, o, none⟩) xs.length c ∧ xs.length ≤ c ∧ ∀ j (hj : j < xs.length), w.cell? ⟨g, o + j, none⟩ = some xs[j]

theorem Row.later {w w' : World} {v : Value} {xs : List Value} (h : Row w v xs) (hb : Below w.heap.size w w') : Row w' v xs := by
  rcases h with h | ⟨g, o, c, h1, hc, h2⟩
  · exact .inl h
  · exact .inr ⟨g, o, c, h1, hc, fun j hj => cell_later hb (h2 j hj)⟩

def fI (q : Rq) : Value := .int .u32 q.i
def fB (q : Rq) : Value := .int .u32 q.b
def fH (q : Rq) : Value := .int .i64 q.h
def fD (q : Rq) : Value := .bool q.d
def fA (q : Rq) : Value := .bool q.a
def fL (q : Rq) : Value := .bool q.l

/-- Opened at a list of requests: none; or each at its place. -/
theorem Row.opn {w : World} {v : Value} {qs : List Rq} {f : Rq → Value} (h : Row w v (qs.map f)) : (qs = [] ∧ ∃ a c, v = .slice a 0 c) ∨ ∃ g o c, v = .slice (some ⟨g, o, none⟩) qs.length c ∧ ∀ j (hj : j < qs.length), w.cell? ⟨g, o + j, none⟩ = some (f qs[j]) := by
  rcases h with ⟨h, h'⟩ | ⟨g, o, c, h1, _, h2⟩
  · exact .inl ⟨by simpa using h, h'⟩
  · refine .inr ⟨g, o, c, by simpa using h1, fun j hj => ?_⟩
    rw [h2 j (by simpa using hj)]; simp

theorem ret_int {k : IntKind} {a b : Int} (h : a = b) : Ending.returned (.int k a) = .returned (.int k b) := by rw [h]

theorem cntA_snoc (qs : List Rq) (j : Nat) (h : j < qs.length) : cntA (qs.take (j + 1)) = cntA (qs.take j) + (if qs[j].a then 1 else 0) := by
  rw [List.take_succ_eq_append_getElem h, cntA_append]
  cases ha : qs[j].a <;> simp [cntA, ha]

set_option maxHeartbeats 2000000 in
set_option maxRecDepth 100000 in
theorem count_any (w : World) (v : Value) (qs : List Rq) (K : Int) (k : Nat) (hK : K = k) (hk : k ≤ qs.length) (hn : qs.length ≤ 1048576) (h : Row w v (qs.map fA)) :
    Calls Try.prog 10 #[v, .int .i64 0, .int .i64 K] w fun e w' => e = .returned (.int .i64 (cntA (qs.take k) : Nat)) ∧ w' = w := by
  subst hK
  rcases h.opn with ⟨rfl, a, c, rfl⟩ | ⟨g, o, c, rfl, hc⟩
  · simp at hk
    subst hk
    go_enter Try.func10, Try.ntmps10
    go_wp2
    refine wp_loop_rounds 1 ?_
    rw [rounds_succ]
    go_wp2
    go_ret
    exact ⟨rfl, rfl⟩
  · clear h
    go_enter Try.func10, Try.ntmps10
    go_wp2
    go_loop [7, 8] (fun vc vj => ∃ j : Nat, j ≤ k ∧ vj = .int .i64 j ∧ vc = .int .i64 (cntA (qs.take j) : Nat)) (fun _ vj => k - (intOf vj).toNat)
    case atStart => exact ⟨0, by omega, rfl, rfl⟩
    case round =>
      obtain ⟨j, hj, rfl, rfl⟩ := hrel
      have hle := cntA_le (qs.take j)
      have hlen : (qs.take j).length ≤ j := List.length_take_le _ _
      by_cases hlt : j < k
      · have hs := cntA_snoc qs j (by omega)
        have hcj := hc j (by omega)
        unfold fA at hcj
        generalize qs[j] = p at *
        obtain ⟨cj, hcj2⟩ : ∃ cj, cntA (qs.take j) = cj := ⟨_, rfl⟩
        rw [hcj2] at hs hle ⊢
        clear hc hcj2
        cases ha : p.a with
        | false =>
          rw [ha] at hcj
          have HS : Hid (cntA (qs.take (j + 1)) = cj) := by
            rw [ha] at hs
            show _ = _
            simpa using hs
          clear hs ha
          go_wp2
          go_round
          case rel => exact ⟨j + 1, by omega, by go_num, by rw [HS.out]⟩
          case measure => simp [intOf]; omega
        | true =>
          rw [ha] at hcj
          have HS : Hid (cntA (qs.take (j + 1)) = cj + 1) := by
            rw [ha] at hs
            show _ = _
            simpa using hs
          clear hs ha
          go_wp2
          go_round
          case rel => exact ⟨j + 1, by omega, by go_num, by rw [HS.out]; go_num⟩
          case measure => simp [intOf]; omega
      · obtain rfl : j = k := by omega
        clear hc
        go_wp2
        go_ret
        exact ⟨rfl, rfl⟩

/-- Opened at a list of Bools. -/
theorem Row.opb {w : World} {v : Value} {bs : List Bool} (h : Row w v (bs.map Value.bool)) : (bs = [] ∧ ∃ a c, v = .slice a 0 c) ∨ ∃ g o c, v = .slice (some ⟨g, o, none⟩) bs.length c ∧ ∀ j (hj : j < bs.length), w.cell? ⟨g, o + j, none⟩ = some (.bool bs[j]) := by
  rcases h with ⟨h, h'⟩ | ⟨g, o, c, h1, _, h2⟩
  · exact .inl ⟨by simpa using h, h'⟩
  · refine .inr ⟨g, o, c, by simpa using h1, fun j hj => ?_⟩
    rw [h2 j (by simpa using hj)]; simp
theorem Row.shape {w : World} {v : Value} {xs : List Value} (h : Row w v xs) : ∃ a c, v = .slice a xs.length c := by
  rcases h with ⟨rfl, a, c, rfl⟩ | ⟨g, o, c, rfl, _⟩
  · exact ⟨a, c, rfl⟩
  · exact ⟨_, _, rfl⟩

def cntT (bs : List Bool) : Nat := (bs.filter id).length
theorem cntT_le (bs : List Bool) : cntT bs ≤ bs.length := List.length_filter_le _ _
theorem cntT_snoc (bs : List Bool) (j : Nat) (h : j < bs.length) : cntT (bs.take (j + 1)) = cntT (bs.take j) + (if bs[j] then 1 else 0) := by
  rw [List.take_succ_eq_append_getElem h]
  cases ha : bs[j] <;> simp [cntT]

/-- It answers a bool; where that is true P holds; the world is ars it was. -/
def BoolEnd (w : World) (P : Prop) (e : Ending) (w' : World) : Prop := ∃ b : Bool, e = .returned (.bool b) ∧ (b = true → P) ∧ w' = w
theorem BoolEnd.no {w : World} {P : Prop} : BoolEnd w P (.returned (.bool false)) w := ⟨false, rfl, (fun h => by cases h), rfl⟩
theorem BoolEnd.dec {w : World} {P : Prop} {b : Bool} (h : b = true → P) : BoolEnd w P (.returned (.bool b)) w := ⟨b, rfl, h, rfl⟩

/-- What zzReqsWellFormed says when it says yes (ars much ars is wanted). -/
structure WF (n0 n1 n2 n3 n4 n5 : Nat) (ars : List Bool) (arrivedN : Int) : Prop where
  e1 : n1 = n0
  e2 : n2 = n0
  e3 : n3 = n0
  e4 : n4 = n0
  e5 : n5 = n0
  ca : (cntT ars : Int) = arrivedN

set_option maxHeartbeats 2000000 in
set_option maxRecDepth 100000 in
theorem wf_bad (w : World) (a0 a1 a2 a3 a4 a5 : Option Addr) (n0 c0 n1 c1 n2 c2 n3 c3 n4 c4 n5 c5 : Nat) (ars : List Bool) (arrivedN lostN : Int)
    (h : ¬ (n1 = n0 ∧ n2 = n0 ∧ n3 = n0 ∧ n4 = n0 ∧ n5 = n0)) :
    Calls Try.prog 6 #[.slice a0 n0 c0, .slice a1 n1 c1, .slice a2 n2 c2, .slice a3 n3 c3, .slice a4 n4 c4, .slice a5 n5 c5, .int .i64 arrivedN, .int .i64 lostN] w
      (BoolEnd w (WF n0 n1 n2 n3 n4 n5 ars arrivedN)) := by
  by_cases e1 : n1 = n0
  · by_cases e2 : n2 = n0
    · by_cases e3 : n3 = n0
      · by_cases e4 : n4 = n0
        · by_cases e5 : n5 = n0
          · exact absurd ⟨e1, e2, e3, e4, e5⟩ h
          · have b5 : ((n5 : Int) != (n0 : Int)) = true := by simp; omega
            clear h e5
            subst e1 e2 e3 e4
            go_enter Try.func6, Try.ntmps6
            go_wp2
            go_ret
            exact BoolEnd.no
        · have b4 : ((n4 : Int) != (n0 : Int)) = true := by simp; omega
          clear h e4
          subst e1 e2 e3
          go_enter Try.func6, Try.ntmps6
          go_wp2
          go_ret
          exact BoolEnd.no
      · have b3 : ((n3 : Int) != (n0 : Int)) = true := by simp; omega
        clear h e3
        subst e1 e2
        go_enter Try.func6, Try.ntmps6
        go_wp2
        go_ret
        exact BoolEnd.no
    · have b2 : ((n2 : Int) != (n0 : Int)) = true := by simp; omega
      clear h e2
      subst e1
      go_enter Try.func6, Try.ntmps6
      go_wp2
      go_ret
      exact BoolEnd.no
  · have b1 : ((n1 : Int) != (n0 : Int)) = true := by simp; omega
    clear h e1
    go_enter Try.func6, Try.ntmps6
    go_wp2
    go_ret
    exact BoolEnd.no

set_option maxHeartbeats 2000000 in
set_option maxRecDepth 100000 in
theorem wf_empty (w : World) (a0 a1 a2 a3 a4 a5 : Option Addr) (c0 c1 c2 c3 c4 c5 : Nat) (arrivedN lostN : Int) :
    Calls Try.prog 6 #[.slice a0 0 c0, .slice a1 0 c1, .slice a2 0 c2, .slice a3 0 c3, .slice a4 0 c4, .slice a5 0 c5, .int .i64 arrivedN, .int .i64 lostN] w
      (BoolEnd w (WF 0 0 0 0 0 0 [] arrivedN)) := by
  by_cases h : (0 : Int) = arrivedN
  · subst h
    go_enter Try.func6, Try.ntmps6
    go_wp2
    refine wp_loop_rounds 1 ?_
    rw [rounds_succ]
    go_wp2
    go_ret
    exact BoolEnd.dec (fun _ => ⟨rfl, rfl, rfl, rfl, rfl, rfl⟩)
  · have hb : ((0 : Int) == arrivedN) = false := by simpa using h
    go_enter Try.func6, Try.ntmps6
    go_wp2
    refine wp_loop_rounds 1 ?_
    rw [rounds_succ]
    go_wp2
    go_ret
    exact BoolEnd.no

set_option maxHeartbeats 2000000 in
set_option maxRecDepth 100000 in
theorem wf_some (w : World) (a0 a1 a2 : Option Addr) (n c0 c1 c2 c3 c4 c5 g3 o3 g4 o4 g5 o5 : Nat) (ds ars ls : List Bool) (arrivedN lostN : Int) (hn : n ≤ 1048576)
    (h3 : ds.length = n) (h4 : ars.length = n) (h5 : ls.length = n)
    (k3 : ∀ j (hj : j < ds.length), w.cell? ⟨g3, o3 + j, none⟩ = some (.bool ds[j])) (k4 : ∀ j (hj : j < ars.length), w.cell? ⟨g4, o4 + j, none⟩ = some (.bool ars[j])) (k5 : ∀ j (hj : j < ls.length), w.cell? ⟨g5, o5 + j, none⟩ = some (.bool ls[j])) :
    Calls Try.prog 6 #[.slice a0 n c0, .slice a1 n c1, .slice a2 n c2, .slice (some ⟨g3, o3, none⟩) n c3, .slice (some ⟨g4, o4, none⟩) n c4, .slice (some ⟨g5, o5, none⟩) n c5, .int .i64 arrivedN, .int .i64 lostN] w
      (BoolEnd w (WF n n n n n n ars arrivedN)) := by
  go_enter Try.func6, Try.ntmps6
  go_wp2
  go_loop [18, 19, 20] (fun va vl vk => ∃ k nl : Nat, k ≤ n ∧ nl ≤ k ∧ vk = .int .i64 k ∧ va = .int .i64 (cntT (ars.take k) : Nat) ∧ vl = .int .i64 nl) (fun _ _ vk => n - (intOf vk).toNat)
  case atStart => exact ⟨0, 0, by omega, by omega, rfl, rfl, rfl⟩
  case round =>
    obtain ⟨k, nl, hk, hnl, rfl, rfl, rfl⟩ := hrel
    have hle := cntT_le (ars.take k)
    have hlen : (ars.take k).length ≤ k := List.length_take_le _ _
    by_cases hlt : k < n
    · have hs := cntT_snoc ars k (by omega)
      have i3 := k3 k (by omega)
      have i4 := k4 k (by omega)
      have i5 := k5 k (by omega)
      generalize ds[k] = d at *
      generalize ars[k] = a at *
      generalize ls[k] = l at *
      obtain ⟨cj, hcj⟩ : ∃ cj, cntT (ars.take k) = cj := ⟨_, rfl⟩
      rw [hcj] at hs hle ⊢
      have HS := hid hs
      clear k3 k4 k5 hcj hs
      cases l with
      | false =>
        cases a <;> cases d
        all_goals
          go_wp2
          first
            | (go_ret; exact BoolEnd.no)
            | (go_round
               case rel => exact ⟨k + 1, nl, by omega, by omega, by go_num, (by rw [HS.out]; first | rfl | go_num), rfl⟩
               case measure => simp [intOf]; omega)
      | true =>
        cases a <;> cases d
        all_goals
          go_wp2
          first
            | (go_ret; exact BoolEnd.no)
            | (go_round
               case rel => exact ⟨k + 1, nl + 1, by omega, by omega, by go_num, (by rw [HS.out]; first | rfl | go_num), by go_num⟩
               case measure => simp [intOf]; omega)
    · obtain rfl : k = n := by omega
      rw [List.take_of_length_le (by omega)] at hle ⊢
      clear k3 k4 k5
      by_cases he : (cntT ars : Int) = arrivedN
      · have HE := hid he
        have hb : ((cntT ars : Int) == arrivedN) = true := by simpa using he
        clear he
        go_wp2
        go_ret
        exact BoolEnd.dec (fun _ => ⟨rfl, rfl, rfl, rfl, rfl, HE.out⟩)
      · have hb : ((cntT ars : Int) == arrivedN) = false := by simpa using he
        clear he
        go_wp2
        go_ret
        exact BoolEnd.no

/-- zzReqsWellFormed at whatever rows. -/
theorem wf_any (w : World) (a0 a1 a2 : Option Addr) (n0 n1 n2 c0 c1 c2 : Nat) (v3 v4 v5 : Value) (ds ars ls : List Bool) (arrivedN lostN : Int) (hn : n0 ≤ 1048576)
    (h3 : Row w v3 (ds.map Value.bool)) (h4 : Row w v4 (ars.map Value.bool)) (h5 : Row w v5 (ls.map Value.bool)) :
    Calls Try.prog 6 #[.slice a0 n0 c0, .slice a1 n1 c1, .slice a2 n2 c2, v3, v4, v5, .int .i64 arrivedN, .int .i64 lostN] w
      (BoolEnd w (WF n0 n1 n2 ds.length ars.length ls.length ars arrivedN)) := by
  by_cases he : n1 = n0 ∧ n2 = n0 ∧ ds.length = n0 ∧ ars.length = n0 ∧ ls.length = n0
  · obtain ⟨rfl, rfl, e3, e4, e5⟩ := he
    by_cases h0 : n2 = 0
    · subst h0
      obtain rfl := List.eq_nil_of_length_eq_zero e3
      obtain rfl := List.eq_nil_of_length_eq_zero e4
      obtain rfl := List.eq_nil_of_length_eq_zero e5
      obtain ⟨a3, c3, rfl⟩ := h3.shape
      obtain ⟨a4, c4, rfl⟩ := h4.shape
      obtain ⟨a5, c5, rfl⟩ := h5.shape
      exact wf_empty w a0 a1 a2 a3 a4 a5 c0 c1 c2 c3 c4 c5 arrivedN lostN
    · rcases h3.opb with ⟨rfl, _⟩ | ⟨g3, o3, c3, rfl, k3⟩
      · exact absurd e3.symm h0
      · rcases h4.opb with ⟨rfl, _⟩ | ⟨g4, o4, c4, rfl, k4⟩
        · exact absurd e4.symm h0
        · rcases h5.opb with ⟨rfl, _⟩ | ⟨g5, o5, c5, rfl, k5⟩
          · exact absurd e5.symm h0
          · have := wf_some w a0 a1 a2 n2 c0 c1 c2 c3 c4 c5 g3 o3 g4 o4 g5 o5 ds ars ls arrivedN lostN hn e3 e4 e5 k3 k4 k5
            rw [e3, e4, e5]
            exact this
  · obtain ⟨a3, c3, rfl⟩ := h3.shape
    obtain ⟨a4, c4, rfl⟩ := h4.shape
    obtain ⟨a5, c5, rfl⟩ := h5.shape
    simp only [List.length_map]
    exact wf_bad w a0 a1 a2 a3 a4 a5 n0 c0 n1 c1 n2 c2 _ c3 _ c4 _ c5 ars arrivedN lostN he

end Go.Proofs.Qxb6608625a
