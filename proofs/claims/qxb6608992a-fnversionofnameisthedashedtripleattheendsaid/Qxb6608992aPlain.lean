import Derived.Lib.Bytealg
import Derived.Lib.Small
/-
  THE PLAIN MATHEMATICS of numbers written in decimal: no Go in sight.
-/
namespace Go.Proofs.Qxb6608992a

def isD (c : UInt8) : Bool := decide (48 ≤ c.toNat ∧ c.toNat ≤ 57)
def allD (l : List UInt8) : Bool := l.all isD
def isN (l : List UInt8) : Bool := !l.isEmpty && allD l && (l.length == 1 || l.head? != some 48)

/-- compareNumbers, as the program has it. -/
def cn (a b : List UInt8) : Int := if Lib.compareInt a.length b.length = 0 then Lib.compareBytes a b else Lib.compareInt a.length b.length
/-- Zeros ahead, up to n digits. -/
def pad (n : Nat) (a : List UInt8) : List UInt8 := List.replicate (n - a.length) 48 ++ a
def sgn (a b : List UInt8) : Int := Lib.compareBytes (pad (max a.length b.length) a) (pad (max a.length b.length) b)

theorem lt_iff (a b : UInt8) : a < b ↔ a.toNat < b.toNat := UInt8.lt_iff_toNat_lt

theorem cmp_self : ∀ l : List UInt8, Lib.compareBytes l l = 0
  | [] => rfl
  | a :: t => by simp [Lib.compareBytes, cmp_self t]

theorem cmp_append : ∀ (a b c : List UInt8), a.length = b.length → Lib.compareBytes (a ++ c) (b ++ c) = Lib.compareBytes a b
  | [], [], c, _ => by simp [cmp_self, Lib.compareBytes]
  | x :: a, y :: b, c, h => by
    have ih := cmp_append a b c (by simpa using h)
    simp only [List.cons_append, Lib.compareBytes, ih]

theorem cn_append (a b c : List UInt8) : cn (a ++ c) (b ++ c) = cn a b := by
  have e : Lib.compareInt ((a ++ c).length : Int) ((b ++ c).length : Int) = Lib.compareInt (a.length : Int) (b.length : Int) := by
    simp only [List.length_append, Lib.compareInt]
    split <;> split <;> (try split) <;> (try split) <;> omega
  unfold cn
  rw [e]
  by_cases h : Lib.compareInt (a.length : Int) (b.length : Int) = 0
  · rw [if_pos h, if_pos h]
    refine cmp_append a b c ?_
    unfold Lib.compareInt at h
    split at h
    · omega
    · split at h <;> omega
  · rw [if_neg h, if_neg h]

theorem isN_head {l : List UInt8} (h : isN l = true) (h2 : 2 ≤ l.length) : ∃ c t, l = c :: t ∧ 48 < c.toNat := by
  cases l with
  | nil => simp at h2
  | cons c t =>
    refine ⟨c, t, rfl, ?_⟩
    simp only [isN, allD, List.all_cons, Bool.and_eq_true, Bool.or_eq_true, beq_iff_eq, bne_iff_ne, List.head?_cons, ne_eq, Option.some.injEq] at h
    have hd := of_decide_eq_true h.1.2.1
    rcases h.2 with h' | h'
    · omega
    · have : c.toNat ≠ 48 := fun e => h' (UInt8.toNat_inj.1 (by simpa using e))
      omega

theorem sgn_eq {a b : List UInt8} (ha : isN a = true) (hb : isN b = true) : sgn a b = cn a b := by
  have la : 1 ≤ a.length := by
    cases a with
    | nil => simp [isN] at ha
    | cons c t => simp
  have lb : 1 ≤ b.length := by
    cases b with
    | nil => simp [isN] at hb
    | cons c t => simp
  unfold sgn cn pad
  by_cases h : a.length = b.length
  · have e1 : max a.length b.length - a.length = 0 := by omega
    have e2 : max a.length b.length - b.length = 0 := by omega
    rw [e1, e2, if_pos (by unfold Lib.compareInt; rw [if_neg (by omega), if_neg (by omega)])]
    rfl
  · by_cases hlt : a.length < b.length
    · obtain ⟨c, t, rfl, hc⟩ := isN_head hb (by omega)
      obtain ⟨m, hm⟩ : ∃ m, max a.length (c :: t).length - a.length = m + 1 := ⟨max a.length (c :: t).length - a.length - 1, by omega⟩
      have e2 : max a.length (c :: t).length - (c :: t).length = 0 := by omega
      have ec : Lib.compareInt (a.length : Int) ((c :: t).length : Int) = -1 := by unfold Lib.compareInt; rw [if_pos (by omega)]
      rw [hm, e2, ec, List.replicate_succ, if_neg (by decide)]
      simp only [List.cons_append, List.replicate_zero, List.nil_append, Lib.compareBytes]
      rw [if_pos ((lt_iff _ _).2 (by simpa using hc))]
    · obtain ⟨c, t, rfl, hc⟩ := isN_head ha (by omega)
      obtain ⟨m, hm⟩ : ∃ m, max (c :: t).length b.length - b.length = m + 1 := ⟨max (c :: t).length b.length - b.length - 1, by omega⟩
      have e2 : max (c :: t).length b.length - (c :: t).length = 0 := by omega
      have ec : Lib.compareInt ((c :: t).length : Int) (b.length : Int) = 1 := by unfold Lib.compareInt; rw [if_neg (by omega), if_pos (by omega)]
      rw [hm, e2, ec, List.replicate_succ, if_neg (by decide)]
      simp only [List.cons_append, List.replicate_zero, List.nil_append, Lib.compareBytes]
      have hc' : (48 : UInt8) < c := (lt_iff _ _).2 (by simpa using hc)
      rw [if_neg (by rw [lt_iff]; rw [lt_iff] at hc'; omega), if_pos hc']

/-! ### The successor -/
/-- Adding one, from the right: the digits, and what is carried on. -/
def sfx : List UInt8 → List UInt8 × Nat
  | [] => ([], 1)
  | d :: t => if d.toNat - 48 + (sfx t).2 = 10 then (48 :: (sfx t).1, 1) else (UInt8.ofNat (48 + (d.toNat - 48 + (sfx t).2)) :: (sfx t).1, 0)
def inc (a : List UInt8) : List UInt8 := if (sfx a).2 = 1 then 49 :: (sfx a).1 else (sfx a).1

theorem sfx_carry : ∀ l : List UInt8, (sfx l).2 = 0 ∨ (sfx l).2 = 1
  | [] => .inr rfl
  | d :: t => by unfold sfx; split <;> simp
theorem sfx_len : ∀ l : List UInt8, (sfx l).1.length = l.length
  | [] => rfl
  | d :: t => by
    have := sfx_len t
    unfold sfx; split <;> simp [this]
theorem sfx_lt : ∀ l : List UInt8, allD l = true → (sfx l).2 = 0 → Lib.compareBytes l (sfx l).1 = -1 ∧ Lib.compareBytes (sfx l).1 l = 1
  | [], _, h => by simp [sfx] at h
  | d :: t, hd, h => by
    simp only [allD, List.all_cons, Bool.and_eq_true] at hd
    have h1 := of_decide_eq_true hd.1
    have ht : allD t = true := hd.2
    unfold sfx at h ⊢
    split at h
    · simp at h
    · rename_i hne
      rw [if_neg hne]
      simp only [Lib.compareBytes]
      rcases sfx_carry t with hc | hc
      · have e : UInt8.ofNat (48 + (d.toNat - 48 + (sfx t).2)) = d := by
          rw [hc]
          have : 48 + (d.toNat - 48 + 0) = d.toNat := by omega
          rw [this]
          exact UInt8.ofNat_toNat
        rw [e, if_neg (by rw [lt_iff]; omega), if_neg (by rw [lt_iff]; omega), if_neg (by rw [lt_iff]; omega), if_neg (by rw [lt_iff]; omega)]
        exact sfx_lt t ht hc
      · have e : (UInt8.ofNat (48 + (d.toNat - 48 + (sfx t).2))).toNat = d.toNat + 1 := by
          rw [hc, UInt8.toNat_ofNat']
          omega
        have hlt : d < UInt8.ofNat (48 + (d.toNat - 48 + (sfx t).2)) := by rw [lt_iff, e]; omega
        have hng : ¬ UInt8.ofNat (48 + (d.toNat - 48 + (sfx t).2)) < d := by rw [lt_iff, e]; omega
        rw [if_pos hlt, if_neg hng, if_pos hlt]
        exact ⟨rfl, rfl⟩

theorem inc_below (a : List UInt8) (h : allD a = true) : cn a (inc a) = -1 ∧ cn (inc a) a = 1 := by
  unfold inc
  rcases sfx_carry a with hc | hc
  · rw [if_neg (by omega)]
    have e : Lib.compareInt (a.length : Int) ((sfx a).1.length : Int) = 0 := by rw [sfx_len]; unfold Lib.compareInt; rw [if_neg (by omega), if_neg (by omega)]
    have e' : Lib.compareInt ((sfx a).1.length : Int) (a.length : Int) = 0 := by rw [sfx_len]; unfold Lib.compareInt; rw [if_neg (by omega), if_neg (by omega)]
    unfold cn
    rw [if_pos e, if_pos e']
    exact sfx_lt a h hc
  · rw [if_pos hc]
    have e : Lib.compareInt (a.length : Int) ((49 :: (sfx a).1).length : Int) = -1 := by rw [List.length_cons, sfx_len]; unfold Lib.compareInt; rw [if_pos (by omega)]
    have e' : Lib.compareInt ((49 :: (sfx a).1).length : Int) (a.length : Int) = 1 := by rw [List.length_cons, sfx_len]; unfold Lib.compareInt; rw [if_neg (by omega), if_pos (by omega)]
    unfold cn
    rw [e, e', if_neg (by decide), if_neg (by decide)]
    exact ⟨rfl, rfl⟩

theorem cn_self (a : List UInt8) : cn a a = 0 := by
  unfold cn
  rw [if_pos (by unfold Lib.compareInt; rw [if_neg (by omega), if_neg (by omega)]), cmp_self]

end Go.Proofs.Qxb6608992a
