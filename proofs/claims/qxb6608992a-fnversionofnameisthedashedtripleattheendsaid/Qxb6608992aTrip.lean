import Derived.Test.Qxb6608992aPlain
/-
  THE PLAIN MATHEMATICS of names that end in v?N-N-N: read from the left at every place (mv), or by the last three dashes (von): the same. No Go in sight.
-/
namespace Go.Proofs.Qxb6608992a

/-- Without a leading v. -/
def tv (l : List UInt8) : List UInt8 := if l.head? = some 118 then l.tail else l
abbrev Tri : Type := List UInt8 × List UInt8 × List UInt8
/-- Three pieces that must be numbers. -/
def chk (x y z : List UInt8) : Option Tri := if isN (tv x) && isN y && isN z then some (tv x, y, z) else none

/-- zzParseTriple: digits, a dash, digits, a dash, digits, the end. -/
def parse2 (c0 c1 u : List UInt8) : Option Tri := if isN (u.takeWhile isD) && (u.dropWhile isD).isEmpty then some (c0, c1, u.takeWhile isD) else none
def parse1 (c0 u : List UInt8) : Option Tri := if isN (u.takeWhile isD) then (match u.dropWhile isD with | c :: t => if c = 45 then parse2 c0 (u.takeWhile isD) t else none | [] => none) else none
def parse0 (u : List UInt8) : Option Tri := if isN (u.takeWhile isD) then (match u.dropWhile isD with | c :: t => if c = 45 then parse1 (u.takeWhile isD) t else none | [] => none) else none
def parse (l : List UInt8) : Option Tri := parse0 (tv l)

/-- zzModelVersion: the first place, at the start or behind a dash, from which the rest parses. -/
def mvAt : Bool → List UInt8 → Option Tri
  | b, [] => if b then parse [] else none
  | b, c :: t => match (if b then parse (c :: t) else none) with
    | some r => some r
    | none => mvAt (c == 45) t

/-- The last dash: what is before it, what is behind. -/
def sp : List UInt8 → Option (List UInt8 × List UInt8)
  | [] => none
  | c :: t => match sp t with
    | some (a, b) => some (c :: a, b)
    | none => if c = 45 then some ([], t) else none

/-- versionOfName: the last three dashes. -/
def lastPiece (l : List UInt8) : List UInt8 := match sp l with | some (_, b) => b | none => l
def von (l : List UInt8) : Option Tri := match sp l with
  | none => none
  | some (r1, c2) => match sp r1 with
    | none => none
    | some (r2, c1) => chk (lastPiece r2) c1 c2

theorem sp_none : ∀ {l : List UInt8}, (45 ∉ l) → sp l = none
  | [], _ => rfl
  | c :: t, h => by
    simp only [List.mem_cons, not_or] at h
    simp only [sp, sp_none h.2]
    rw [if_neg (fun e => h.1 e.symm)]
theorem sp_some : ∀ (a b : List UInt8), (45 ∉ b) → sp (a ++ 45 :: b) = some (a, b)
  | [], b, h => by simp [sp, sp_none h]
  | c :: a, b, h => by simp [sp, sp_some a b h]
theorem sp_out : ∀ {l a b : List UInt8}, sp l = some (a, b) → l = a ++ 45 :: b ∧ 45 ∉ b
  | [], _, _, h => by simp [sp] at h
  | c :: t, a, b, h => by
    simp only [sp] at h
    cases ht : sp t with
    | some p =>
      obtain ⟨a', b'⟩ := p
      rw [ht] at h
      simp only [Option.some.injEq, Prod.mk.injEq] at h
      obtain ⟨rfl, rfl⟩ := h
      obtain ⟨e, hb⟩ := sp_out ht
      exact ⟨by rw [e]; rfl, hb⟩
    | none =>
      rw [ht] at h
      simp only at h
      split at h
      · rename_i hc
        simp only [Option.some.injEq, Prod.mk.injEq] at h
        obtain ⟨rfl, rfl⟩ := h
        refine ⟨by rw [hc]; rfl, ?_⟩
        intro hm
        obtain ⟨s, u, rfl⟩ := List.append_of_mem hm
        obtain ⟨p, hp⟩ : ∃ p, sp (s ++ 45 :: u) = some p := sp_ex s u
        rw [hp] at ht; cases ht
      · cases h
where sp_ex : ∀ (s u : List UInt8), ∃ p, sp (s ++ 45 :: u) = some p
  | [], u => by
    simp only [List.nil_append, sp]
    cases sp u with
    | some p => exact ⟨_, rfl⟩
    | none => exact ⟨_, rfl⟩
  | c :: s, u => by
    obtain ⟨p, hp⟩ := sp_ex s u
    simp only [List.cons_append, sp, hp]
    exact ⟨_, rfl⟩

theorem isD_dash {c : UInt8} (h : isD c = true) : c ≠ 45 := by
  intro e; subst e; simp [isD] at h

theorem digits_nodash {l : List UInt8} (h : allD l = true) : 45 ∉ l := by
  intro hm
  have := List.all_eq_true.1 h 45 hm
  simp [isD] at this

theorem isN_all {l : List UInt8} (h : isN l = true) : allD l = true := by
  unfold isN at h
  simp only [Bool.and_eq_true] at h
  exact h.1.2

theorem tv_mem {l : List UInt8} (h : 45 ∉ l) : 45 ∉ tv l := by
  unfold tv
  split
  · exact fun hm => h (List.mem_of_mem_tail hm)
  · exact h

/-- Digits, then something that is no digit. -/
theorem span_digits : ∀ (x r : List UInt8), allD x = true → (∀ c t, r = c :: t → isD c = false) → (x ++ r).takeWhile isD = x ∧ (x ++ r).dropWhile isD = r
  | [], r, _, hr => by
    cases r with
    | nil => simp
    | cons c t => have := hr c t rfl; simp [this]
  | d :: x, r, hx, hr => by
    simp only [allD, List.all_cons, Bool.and_eq_true] at hx
    obtain ⟨h1, h2⟩ := span_digits x r hx.2 hr
    simp [hx.1, h1, h2]

/-- What stands ahead of the first non-digit, where no dash stands. -/
theorem span_nodash (x r : List UInt8) (h : 45 ∉ x) (hn : allD x = false) : ∃ c t, (x ++ r).dropWhile isD = c :: t ∧ c ≠ 45 := by
  induction x with
  | nil => simp [allD] at hn
  | cons d x ih =>
    simp only [List.mem_cons, not_or] at h
    cases hd : isD d with
    | true =>
      have hx : allD x = false := by simpa [allD, hd] using hn
      obtain ⟨c, t, e, hc⟩ := ih h.2 hx
      exact ⟨c, t, by simpa [hd] using e, hc⟩
    | false => exact ⟨d, x ++ r, by simp [hd], fun e => h.1 e.symm⟩

theorem isN_no {l : List UInt8} (h : allD l = false) : isN l = false := by unfold isN; rw [h]; simp

theorem dash_nd : ∀ (r : List UInt8) c t, 45 :: r = c :: t → isD c = false := by
  intro r c t e
  simp only [List.cons.injEq] at e
  rw [← e.1]; rfl

theorem parse2_eq (c0 c1 z : List UInt8) (h : 45 ∉ z) : parse2 c0 c1 z = if isN z then some (c0, c1, z) else none := by
  unfold parse2
  cases hz : allD z with
  | true =>
    have := span_digits z [] hz (fun c t e => by cases e)
    rw [List.append_nil] at this
    rw [this.1, this.2]
    simp
  | false =>
    obtain ⟨c, t, e, _⟩ := span_nodash z [] h hz
    rw [List.append_nil] at e
    rw [e, isN_no hz]
    simp
theorem parse1_eq (c0 y r : List UInt8) (h : 45 ∉ y) : parse1 c0 (y ++ 45 :: r) = if isN y then parse2 c0 y r else none := by
  unfold parse1
  cases hy : allD y with
  | true =>
    have := span_digits y (45 :: r) hy (dash_nd r)
    rw [this.1, this.2]
    simp
  | false =>
    obtain ⟨c, t, e, hc⟩ := span_nodash y (45 :: r) h hy
    rw [e, isN_no hy]
    simp [hc]
theorem parse0_eq (x r : List UInt8) (h : 45 ∉ x) : parse0 (x ++ 45 :: r) = if isN x then parse1 x r else none := by
  unfold parse0
  cases hx : allD x with
  | true =>
    have := span_digits x (45 :: r) hx (dash_nd r)
    rw [this.1, this.2]
    simp
  | false =>
    obtain ⟨c, t, e, hc⟩ := span_nodash x (45 :: r) h hx
    rw [e, isN_no hx]
    simp [hc]
theorem tv_app (x r : List UInt8) : tv (x ++ 45 :: r) = tv x ++ 45 :: r := by
  cases x with
  | nil => simp [tv]
  | cons c x =>
    by_cases hc : c = 118
    · simp [tv, hc]
    · simp [tv, hc]
theorem parse_eq (x y z : List UInt8) (hx : 45 ∉ x) (hy : 45 ∉ y) (hz : 45 ∉ z) : parse (x ++ 45 :: (y ++ 45 :: z)) = chk x y z := by
  unfold parse chk
  rw [tv_app, parse0_eq _ _ (tv_mem hx), parse1_eq _ _ _ hy, parse2_eq _ _ _ hz]
  cases isN (tv x) <;> cases isN y <;> cases isN z <;> simp

theorem cnt_digits {l : List UInt8} (h : isN l = true) : l.count 45 = 0 := List.count_eq_zero.2 (digits_nodash (isN_all h))
theorem split_digits (u : List UInt8) : u = u.takeWhile isD ++ u.dropWhile isD := (List.takeWhile_append_dropWhile).symm

theorem parse2_cnt {c0 c1 u : List UInt8} {r : Tri} (h : parse2 c0 c1 u = some r) : u.count 45 = 0 := by
  unfold parse2 at h
  split at h
  · rename_i hc
    simp only [Bool.and_eq_true, List.isEmpty_iff] at hc
    rw [split_digits u, hc.2, List.append_nil, cnt_digits hc.1]
  · cases h
theorem parse1_cnt {c0 u : List UInt8} {r : Tri} (h : parse1 c0 u = some r) : u.count 45 = 1 := by
  unfold parse1 at h
  split at h
  · rename_i hc
    split at h
    · rename_i c t hd
      split at h
      · rename_i h45
        rw [split_digits u, hd, h45, List.count_append, cnt_digits hc, List.count_cons_self, parse2_cnt h]
      · cases h
    · cases h
  · cases h
theorem parse0_cnt {u : List UInt8} {r : Tri} (h : parse0 u = some r) : u.count 45 = 2 := by
  unfold parse0 at h
  split at h
  · rename_i hc
    split at h
    · rename_i c t hd
      split at h
      · rename_i h45
        rw [split_digits u, hd, h45, List.count_append, cnt_digits hc, List.count_cons_self, parse1_cnt h]
      · cases h
    · cases h
  · cases h
theorem tv_cnt (l : List UInt8) : (tv l).count 45 = l.count 45 := by
  unfold tv
  split
  · rename_i h
    cases l with
    | nil => rfl
    | cons c t =>
      simp only [List.head?_cons, Option.some.injEq] at h
      subst h
      simp
  · rfl
theorem parse_none {l : List UInt8} (h : l.count 45 ≠ 2) : parse l = none := by
  cases hp : parse l with
  | none => rfl
  | some r =>
    unfold parse at hp
    have := parse0_cnt hp
    rw [tv_cnt] at this
    exact absurd this h

theorem mvAt_few : ∀ (l : List UInt8) (b : Bool), l.count 45 < 2 → mvAt b l = none
  | [], b, _ => by
    have : parse [] = none := parse_none (by simp)
    simp [mvAt, this]
  | c :: t, b, h => by
    have hp : parse (c :: t) = none := parse_none (by omega)
    have ht : t.count 45 < 2 := by
      have := List.count_le_count_cons (a := (45 : UInt8)) (b := c) (l := t)
      omega
    simp only [mvAt, hp, mvAt_few t _ ht]
    cases b <;> rfl
theorem mvAt_skip : ∀ (x r : List UInt8), (45 ∉ x) → mvAt false (x ++ 45 :: r) = mvAt true r
  | [], r, _ => by simp [mvAt]
  | c :: x, r, h => by
    simp only [List.mem_cons, not_or] at h
    have hc : (c == 45) = false := by simpa using fun e => h.1 e.symm
    simp only [List.cons_append, mvAt, hc]
    exact mvAt_skip x r h.2
/-- From the start: if the whole does not parse, on to behind the first dash. -/
theorem mvAt_next (x r : List UInt8) (h : 45 ∉ x) (hp : parse (x ++ 45 :: r) = none) : mvAt true (x ++ 45 :: r) = mvAt true r := by
  cases x with
  | nil => simp only [List.nil_append] at hp ⊢; simp [mvAt, hp]
  | cons c x =>
    simp only [List.mem_cons, not_or] at h
    have hc : (c == 45) = false := by simpa using fun e => h.1 e.symm
    simp only [List.cons_append] at hp ⊢
    simp only [mvAt, hp, hc]
    exact mvAt_skip x r h.2
theorem mvAt_hit (x r : List UInt8) (t : Tri) (hp : parse (x ++ 45 :: r) = some t) : mvAt true (x ++ 45 :: r) = some t := by
  cases x with
  | nil => simp only [List.nil_append] at hp ⊢; simp [mvAt, hp]
  | cons c x => simp only [List.cons_append] at hp ⊢; simp [mvAt, hp]

/-- The first dash. -/
theorem first_dash : ∀ (l : List UInt8), (45 ∉ l) ∨ ∃ a r, l = a ++ 45 :: r ∧ 45 ∉ a
  | [] => .inl (by simp)
  | c :: t => by
    by_cases hc : c = 45
    · exact .inr ⟨[], t, by rw [hc]; rfl, by simp⟩
    · rcases first_dash t with h | ⟨a, r, rfl, ha⟩
      · exact .inl (by simp only [List.mem_cons, not_or]; exact ⟨fun e => hc e.symm, h⟩)
      · exact .inr ⟨c :: a, r, rfl, by simp only [List.mem_cons, not_or]; exact ⟨fun e => hc e.symm, ha⟩⟩

theorem sp_cons (a l : List UInt8) {p q : List UInt8} (h : sp l = some (p, q)) : sp (a ++ 45 :: l) = some (a ++ 45 :: p, q) := by
  obtain ⟨rfl, hq⟩ := sp_out h
  have := sp_some (a ++ 45 :: p) q hq
  simpa using this
theorem sp_pos {l : List UInt8} (h : 1 ≤ l.count 45) : ∃ p q, sp l = some (p, q) ∧ p.count 45 + 1 = l.count 45 := by
  cases hs : sp l with
  | none =>
    exfalso
    have hm : (45 : UInt8) ∈ l := List.count_pos_iff.1 (by omega)
    obtain ⟨s, u, rfl⟩ := List.append_of_mem hm
    obtain ⟨p, hp⟩ := sp_out.sp_ex s u
    rw [hp] at hs; cases hs
  | some pq =>
    obtain ⟨p, q⟩ := pq
    obtain ⟨rfl, hq⟩ := sp_out hs
    refine ⟨p, q, rfl, ?_⟩
    rw [List.count_append, List.count_cons_self, List.count_eq_zero.2 hq]

theorem lastPiece_cons (a l : List UInt8) : lastPiece (a ++ 45 :: l) = lastPiece l := by
  unfold lastPiece
  cases h : sp l with
  | some pq => rw [sp_cons a l h]
  | none =>
    by_cases hm : (45 : UInt8) ∈ l
    · obtain ⟨s, u, rfl⟩ := List.append_of_mem hm
      obtain ⟨p, hp⟩ := sp_out.sp_ex s u
      rw [hp] at h; cases h
    · rw [sp_some a l hm]

theorem von_step (a l : List UInt8) (h : 2 ≤ l.count 45) : von (a ++ 45 :: l) = von l := by
  obtain ⟨p1, q1, e1, k1⟩ := sp_pos (l := l) (by omega)
  obtain ⟨p2, q2, e2, k2⟩ := sp_pos (l := p1) (by omega)
  unfold von
  rw [e1, sp_cons a l e1]
  simp only
  rw [e2, sp_cons a p1 e2]
  simp only
  rw [lastPiece_cons]

theorem von_few {l : List UInt8} (h : l.count 45 < 2) : von l = none := by
  unfold von
  cases hs : sp l with
  | none => rfl
  | some pq =>
    obtain ⟨r1, c2⟩ := pq
    obtain ⟨rfl, hc⟩ := sp_out hs
    rw [List.count_append, List.count_cons_self] at h
    simp only
    rw [sp_none (fun hm => by have := List.count_pos_iff.2 hm; omega)]

/-- THE LAW: the two readings agree. -/
theorem mv_von : ∀ (n : Nat) (l : List UInt8), l.length ≤ n → mvAt true l = von l
  | 0, l, h => by
    obtain rfl : l = [] := List.eq_nil_of_length_eq_zero (by omega)
    rw [mvAt_few [] true (by simp), von_few (by simp)]
  | n + 1, l, h => by
    by_cases hf : l.count 45 < 2
    · rw [mvAt_few l true hf, von_few hf]
    · rcases first_dash l with hm | ⟨a, r, rfl, ha⟩
      · rw [List.count_eq_zero.2 hm] at hf; omega
      · have hca : a.count 45 = 0 := List.count_eq_zero.2 ha
        rw [List.count_append, List.count_cons_self, hca] at hf
        by_cases h3 : 2 ≤ r.count 45
        · rw [mvAt_next a r ha (parse_none (by rw [List.count_append, List.count_cons_self, hca]; omega)), von_step a r h3]
          exact mv_von n r (by simp at h; omega)
        · rcases first_dash r with hm | ⟨y, z, rfl, hy⟩
          · rw [List.count_eq_zero.2 hm] at hf; omega
          · have hcy : y.count 45 = 0 := List.count_eq_zero.2 hy
            rw [List.count_append, List.count_cons_self, hcy] at h3
            have hz : 45 ∉ z := fun hmz => by have := List.count_pos_iff.2 hmz; omega
            have hp := parse_eq a y z ha hy hz
            have hv : von (a ++ 45 :: (y ++ 45 :: z)) = chk a y z := by
              unfold von
              rw [sp_cons a _ (sp_some y z hz)]
              simp only
              rw [sp_some a y hy]
              simp only
              unfold lastPiece
              rw [sp_none ha]
            rw [hv]
            cases hk : chk a y z with
            | some t => rw [hk] at hp; exact mvAt_hit a _ t hp
            | none =>
              rw [hk] at hp
              rw [mvAt_next a _ ha hp, mvAt_few _ true (by rw [List.count_append, List.count_cons_self, hcy, List.count_eq_zero.2 hz]; omega)]

end Go.Proofs.Qxb6608992a
