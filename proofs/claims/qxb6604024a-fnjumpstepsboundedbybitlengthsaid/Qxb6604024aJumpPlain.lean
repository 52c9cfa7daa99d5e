import Derived.WalkKit
namespace Go.Proofs.Qxb6604024a

/-- the products below step m stay within o -/
def Run (o l b : Int) (m : Nat) : Prop := ∀ j, j < m → (l + 1) * b ^ j ≤ o
/-- K is the least k with o < (l + 1) * b ^ k -/
def IsK (o l b : Int) (K : Nat) : Prop := Run o l b K ∧ o < (l + 1) * b ^ K

theorem pow_ge (b : Int) (hb : 2 ≤ b) : ∀ n : Nat, (2 : Int) ^ n ≤ b ^ n
  | 0 => by simp
  | n + 1 => by
    have ih := pow_ge b hb n
    have h2 : (0 : Int) ≤ 2 ^ n := Int.pow_nonneg (by omega)
    rw [Int.pow_succ, Int.pow_succ]
    exact Int.mul_le_mul ih hb (by omega) (by omega)

theorem pow_pos' (b : Int) (hb : 2 ≤ b) (n : Nat) : 0 < b ^ n := Int.pow_pos (by omega)

/-- more than 63 products do not fit -/
theorem Run.le {o l b : Int} {m : Nat} (h : Run o l b m) (hl : 0 ≤ l) (hb : 2 ≤ b) (ho : o ≤ 9223372036854775807) : m ≤ 63 := by
  refine Nat.le_of_not_lt fun hm => ?_
  have h63 := h 63 hm
  have hp := pow_ge b hb 63
  have h2 : (2 : Int) ^ 63 = 9223372036854775808 := by decide
  rw [h2] at hp
  have : 1 * b ^ 63 ≤ (l + 1) * b ^ 63 := Int.mul_le_mul_of_nonneg_right (by omega) (by omega)
  omega

theorem Run.zero (o l b : Int) : Run o l b 0 := fun j h => by omega
theorem Run.succ {o l b : Int} {m : Nat} (h : Run o l b m) (hm : (l + 1) * b ^ m ≤ o) : Run o l b (m + 1) := by
  intro j hj
  by_cases e : j = m
  · subst e; exact hm
  · exact h j (by omega)

theorem IsK.unique {o l b : Int} {K K' : Nat} (h : IsK o l b K) (h' : IsK o l b K') : K = K' := by
  rcases Nat.lt_trichotomy K K' with g | g | g
  · have := h'.1 K g; have := h.2; omega
  · exact g
  · have := h.1 K' g; have := h'.2; omega

/-- the reader's test on the span is the model's test on the product -/
theorem span_gt (o l b : Int) (m : Nat) (hb : 2 ≤ b) : l < o / b ^ m ↔ (l + 1) * b ^ m ≤ o := by
  have hp := pow_pos' b hb m
  have := Int.le_ediv_iff_mul_le (a := l + 1) (b := o) hp
  omega

theorem span_succ (o b : Int) (m : Nat) (hb : 2 ≤ b) : o / b ^ m / b = o / b ^ (m + 1) := by
  rw [Int.pow_succ]
  exact Int.ediv_ediv_of_nonneg (Int.le_of_lt (pow_pos' b hb m))

theorem span_bd (o b : Int) (m : Nat) (hb : 2 ≤ b) (ho : 0 ≤ o) : 0 ≤ o / b ^ m ∧ o / b ^ m ≤ o := by
  have hp := pow_pos' b hb m
  exact ⟨Int.ediv_nonneg ho (Int.le_of_lt hp), Int.ediv_le_self _ ho⟩

/-- no more steps than bits -/
theorem bits_le {o l b : Int} {K N : Nat} (h : IsK o l b K) (h' : IsK o 0 2 N) (hl : 0 ≤ l) (hb : 2 ≤ b) : K ≤ N := by
  refine Nat.le_of_not_lt fun hlt => ?_
  have h1 := h.1 N hlt
  have h2 := h'.2
  have h3 := pow_ge b hb N
  have h4 : 1 * b ^ N ≤ (l + 1) * b ^ N := Int.mul_le_mul_of_nonneg_right (by omega) (Int.le_of_lt (pow_pos' b hb N))
  omega
theorem bits_pos {o : Int} {N : Nat} (h : IsK o 0 2 N) (ho : 0 < o) : 1 ≤ N := by
  refine Nat.one_le_iff_ne_zero.2 fun e => ?_
  subst e
  have := h.2
  simp at this
  omega

end Go.Proofs.Qxb6604024a
