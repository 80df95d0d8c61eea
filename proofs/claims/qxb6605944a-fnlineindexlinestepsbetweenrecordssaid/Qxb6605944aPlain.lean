import Derived.Lib.VarintDec
/-
  THE PLAIN MATHEMATICS of the two laws on lineIndex.line: no Go in sight.
-/
namespace Go.Proofs.Qxb6605944a

/-- What zzUvarint asks: the number ends within five bytes. -/
def ok5 (l : List UInt8) : Bool := decide (1 ≤ (Lib.uvarintDec l).2 ∧ (Lib.uvarintDec l).2 ≤ 5)
def uvV (l : List UInt8) : Nat := (Lib.uvarintDec l).1
def uvN (l : List UInt8) : Nat := (Lib.uvarintDec l).2.toNat
def nx (l : List UInt8) : List UInt8 := l.drop (uvN l)

theorem from_size : ∀ (l : List UInt8) (i acc : Nat), ((Lib.uvarintFrom i acc l).2 ≤ 0 ∨ (i : Int) + 1 ≤ (Lib.uvarintFrom i acc l).2) ∧ (Lib.uvarintFrom i acc l).2 ≤ (i : Int) + l.length
  | [], i, acc => by simp [Lib.uvarintFrom]
  | b :: r, i, acc => by
    have ih := from_size r (i + 1) (acc + b.toNat % 128 * 2 ^ (7 * i))
    simp only [Lib.uvarintFrom, List.length_cons]
    split
    · simp only []; omega
    · split
      · split
        · simp only []; omega
        · simp only []; omega
      · omega

theorem ok5_iff {l : List UInt8} (h : ok5 l = true) : (Lib.uvarintDec l).2 = (uvN l : Int) ∧ 1 ≤ uvN l ∧ uvN l ≤ 5 ∧ uvN l ≤ l.length := by
  have h' := of_decide_eq_true h
  have hs := (from_size l 0 0).2
  have e : Lib.uvarintFrom 0 0 l = Lib.uvarintDec l := rfl
  rw [e] at hs
  unfold uvN
  omega

theorem nx_length {l : List UInt8} (h : ok5 l = true) : (nx l).length + uvN l = l.length := by
  have := ok5_iff h
  unfold nx
  simp
  omega

/-- Read pairs off l: what is left is r. -/
def Enc : List (Nat × Nat) → List UInt8 → List UInt8 → Prop
  | [], l, r => l = r
  | p :: ps, l, r => ok5 l = true ∧ uvV l = p.1 ∧ ok5 (nx l) = true ∧ uvV (nx l) = p.2 ∧ Enc ps (nx (nx l)) r

theorem Enc.snoc : ∀ (ps : List (Nat × Nat)) (l r : List UInt8), Enc ps l r → ok5 r = true → ok5 (nx r) = true → Enc (ps ++ [(uvV r, uvV (nx r))]) l (nx (nx r))
  | [], l, r, h, h1, h2 => by
    obtain rfl : l = r := h
    exact ⟨h1, rfl, h2, rfl, rfl⟩
  | p :: ps, l, r, h, h1, h2 => ⟨h.1, h.2.1, h.2.2.1, h.2.2.2.1, Enc.snoc ps _ _ h.2.2.2.2 h1 h2⟩

theorem Enc.length : ∀ (ps : List (Nat × Nat)) (l r : List UInt8), Enc ps l r → r.length + 2 * ps.length ≤ l.length
  | [], l, r, h => by
    obtain rfl : l = r := h
    simp
  | p :: ps, l, r, h => by
    have ih := Enc.length ps _ _ h.2.2.2.2
    have a := nx_length h.1
    have b := nx_length h.2.2.1
    have c := ok5_iff h.1
    have d := ok5_iff h.2.2.1
    simp only [List.length_cons]
    omega

/-- Pairs within the bounds that zzDecodeRuns asks. -/
def Small (ps : List (Nat × Nat)) : Prop := ∀ p ∈ ps, p.1 ≤ 1073741824 ∧ p.2 ≤ 2147483648

theorem Small.nil : Small [] := fun _ h => by cases h
theorem Small.snoc {ps : List (Nat × Nat)} (h : Small ps) {s c : Nat} (hs : s ≤ 1073741824) (hc : c ≤ 2147483648) : Small (ps ++ [(s, c)]) := by
  intro p hp
  rcases List.mem_append.1 hp with h1 | h1
  · exact h p h1
  · simp at h1; subst h1; exact ⟨hs, hc⟩

/-- The sum of the counts; the sum of step times count. -/
def cnt : List (Nat × Nat) → Nat
  | [] => 0
  | p :: ps => p.2 + cnt ps
def tot : List (Nat × Nat) → Nat
  | [] => 0
  | p :: ps => p.1 * p.2 + tot ps

theorem cnt_append : ∀ (a b : List (Nat × Nat)), cnt (a ++ b) = cnt a + cnt b
  | [], b => by simp [cnt]
  | p :: a, b => by simp only [List.cons_append, cnt, cnt_append a b]; omega
theorem tot_append : ∀ (a b : List (Nat × Nat)), tot (a ++ b) = tot a + tot b
  | [], b => by simp [tot]
  | p :: a, b => by simp only [List.cons_append, tot, tot_append a b]; omega

/-- The first k steps, from the front. -/
def up : List (Nat × Nat) → Nat → Nat → Nat
  | [], st, k => k * st
  | p :: ps, st, k => min k p.2 * p.1 + up ps st (k - min k p.2)
/-- The last r steps of the runs, the last run first. -/
def bk : List (Nat × Nat) → Nat → Nat
  | [], _ => 0
  | p :: qs, r => min r p.2 * p.1 + bk qs (r - min r p.2)
/-- The n-th step. -/
def stepAt : List (Nat × Nat) → Nat → Nat → Nat
  | [], st, _ => st
  | p :: ps, st, k => if k ≤ p.2 then p.1 else stepAt ps st (k - p.2)

theorem up_zero : ∀ (ps : List (Nat × Nat)) (st : Nat), up ps st 0 = 0
  | [], st => by simp [up]
  | p :: ps, st => by simp [up, up_zero ps st]

theorem bk_append : ∀ (a b : List (Nat × Nat)) (r : Nat), bk (a ++ b) r = bk a r + bk b (r - cnt a)
  | [], b, r => by simp [bk, cnt]
  | p :: a, b, r => by
    simp only [List.cons_append, bk, cnt, bk_append a b]
    have : r - min r p.2 - cnt a = r - (p.2 + cnt a) := by omega
    rw [this]; omega

theorem bk_zero : ∀ (a : List (Nat × Nat)), bk a 0 = 0
  | [] => rfl
  | p :: a => by simp [bk, bk_zero a]

theorem bk_all : ∀ (a : List (Nat × Nat)) (r : Nat), cnt a ≤ r → bk a r = tot a
  | [], _, _ => rfl
  | p :: a, r, h => by
    simp only [cnt] at h
    have e : min r p.2 = p.2 := by omega
    simp only [bk, tot, e]
    rw [bk_all a _ (by omega), Nat.mul_comm]

theorem cnt_reverse : ∀ (a : List (Nat × Nat)), cnt a.reverse = cnt a
  | [] => rfl
  | p :: a => by simp only [List.reverse_cons, cnt_append, cnt_reverse a, cnt]; omega
theorem tot_reverse : ∀ (a : List (Nat × Nat)), tot a.reverse = tot a
  | [] => rfl
  | p :: a => by simp only [List.reverse_cons, tot_append, tot_reverse a, tot]; omega

/-- LAW 1: what is counted up and what is counted back make the whole. -/
theorem up_back : ∀ (ps : List (Nat × Nat)) (st count k r : Nat), k + r = cnt ps + count → up ps st k + (min r count * st + bk ps.reverse (r - min r count)) = tot ps + st * count
  | [], st, count, k, r, h => by
    simp only [cnt] at h
    have e : min r count = r := by omega
    simp only [up, tot, List.reverse_nil, bk, e]
    have : (k + r) * st = st * count := by rw [h, Nat.zero_add, Nat.mul_comm]
    rw [Nat.add_mul] at this
    omega
  | p :: ps, st, count, k, r, h => by
    simp only [cnt] at h
    simp only [up, tot, List.reverse_cons, bk_append, cnt_reverse, bk]
    by_cases hk : p.2 ≤ k
    · have ih := up_back ps st count (k - p.2) r (by omega)
      have e1 : min k p.2 = p.2 := by omega
      have e2 : r - min r count - cnt ps = 0 := by omega
      simp only [e1, e2, Nat.zero_min, Nat.zero_mul]
      rw [Nat.mul_comm p.1 p.2]
      omega
    · have ih := up_back ps st count 0 (cnt ps + count) (by omega)
      rw [up_zero] at ih
      have e1 : min k p.2 = k := by omega
      have e2 : min (cnt ps + count) count = count := by omega
      have e3 : min r count = count := by omega
      have e4 : min (r - count - cnt ps) p.2 = p.2 - k := by omega
      rw [e2, bk_all _ _ (by rw [cnt_reverse]; omega)] at ih
      rw [e1, e3, bk_all _ _ (by rw [cnt_reverse]; omega), e4, Nat.sub_self, up_zero]
      have : k * p.1 + (p.2 - k) * p.1 = p.1 * p.2 := by
        rw [← Nat.add_mul, Nat.mul_comm]; congr 1; omega
      omega

theorem up_le (ps : List (Nat × Nat)) (st count k r : Nat) (h : k + r = cnt ps + count) : up ps st k ≤ tot ps + st * count := by
  have := up_back ps st count k r h
  omega

/-- LAW 2: one step further. -/
theorem up_succ : ∀ (ps : List (Nat × Nat)) (st k : Nat), up ps st (k + 1) = up ps st k + stepAt ps st (k + 1)
  | [], st, k => by simp only [up, stepAt, Nat.add_mul]; omega
  | p :: ps, st, k => by
    simp only [up, stepAt]
    by_cases hk : k + 1 ≤ p.2
    · have e1 : min (k + 1) p.2 = k + 1 := by omega
      have e2 : min k p.2 = k := by omega
      rw [if_pos hk, e1, e2, Nat.sub_self, Nat.sub_self, up_zero, Nat.add_mul]
      omega
    · have e1 : min (k + 1) p.2 = p.2 := by omega
      have e2 : min k p.2 = p.2 := by omega
      have e3 : k + 1 - p.2 = (k - p.2) + 1 := by omega
      rw [if_neg hk, e1, e2, e3, up_succ ps st (k - p.2)]
      omega

end Go.Proofs.Qxb6605944a
