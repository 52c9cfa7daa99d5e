import Derived.WalkKit
namespace Go.Proofs.Qxb6604034a

/-- the sum of the first i numbers -/
def pre (f : Nat → Int) : Nat → Int
  | 0 => 0
  | i + 1 => pre f i + f i
/-- the sum of those from i on -/
def suf (f : Nat → Int) (n i : Nat) : Int := pre f n - pre f i
theorem pre_zero (f : Nat → Int) : pre f 0 = 0 := rfl
theorem pre_succ (f : Nat → Int) (i : Nat) : pre f (i + 1) = pre f i + f i := rfl
theorem suf_end (f : Nat → Int) (n : Nat) : suf f n n = 0 := by unfold suf; omega
theorem suf_pred (f : Nat → Int) (n i : Nat) : suf f n i = suf f n (i + 1) + f i := by unfold suf; rw [pre_succ]; omega

/-- no sum on the road is great -/
structure Fits (f : Nat → Int) (n : Nat) : Prop where
  el : ∀ j, j < n → -2305843009213693951 ≤ f j ∧ f j ≤ 2305843009213693951
  pre : ∀ i, i ≤ n → -2305843009213693951 ≤ pre f i ∧ pre f i ≤ 2305843009213693951
  suf : ∀ i, i ≤ n → -2305843009213693951 ≤ suf f n i ∧ suf f n i ≤ 2305843009213693951

theorem pre_bd (f : Nat → Int) (L : Int) (n : Nat) (h : ∀ j, j < n → -L ≤ f j ∧ f j ≤ L) : ∀ i, i ≤ n → -((i : Int) * L) ≤ pre f i ∧ pre f i ≤ (i : Int) * L
  | 0, _ => by simp [pre_zero]
  | i + 1, hi => by
    have ih := pre_bd f L n h i (by omega)
    have := h i (by omega)
    have e : ((i + 1 : Nat) : Int) * L = (i : Int) * L + L := by rw [show ((i + 1 : Nat) : Int) = (i : Int) + 1 from by omega, Int.add_mul, Int.one_mul]
    rw [pre_succ, e]
    omega
theorem suf_bd (f : Nat → Int) (L : Int) (n : Nat) (h : ∀ j, j < n → -L ≤ f j ∧ f j ≤ L) : ∀ d, d ≤ n → -((d : Int) * L) ≤ suf f n (n - d) ∧ suf f n (n - d) ≤ (d : Int) * L
  | 0, _ => by simp [suf_end]
  | d + 1, hd => by
    have ih := suf_bd f L n h d (by omega)
    have := h (n - (d + 1)) (by omega)
    have e : ((d + 1 : Nat) : Int) * L = (d : Int) * L + L := by rw [show ((d + 1 : Nat) : Int) = (d : Int) + 1 from by omega, Int.add_mul, Int.one_mul]
    rw [suf_pred, show n - (d + 1) + 1 = n - d from by omega, e]
    omega

theorem fits_of (f : Nat → Int) (n : Nat) (L : Int) (h0 : 0 ≤ L) (hL : L * ((n : Int) + 1) ≤ 2305843009213693951) (h : ∀ j, j < n → -L ≤ f j ∧ f j ≤ L) : Fits f n := by
  have hm : ∀ i : Nat, i ≤ n → (i : Int) * L ≤ 2305843009213693951 := by
    intro i hi
    have h1 : (i : Int) * L ≤ ((n : Int) + 1) * L := Int.mul_le_mul_of_nonneg_right (by omega) h0
    rw [Int.mul_comm ((n : Int) + 1) L] at h1
    omega
  refine ⟨fun j hj => ?_, fun i hi => ?_, fun i hi => ?_⟩
  · have := h j hj
    have h1 : L * 1 ≤ L * ((n : Int) + 1) := Int.mul_le_mul_of_nonneg_left (by omega) h0
    omega
  · have := pre_bd f L n h i hi
    have := hm i hi
    omega
  · have := suf_bd f L n h (n - i) (by omega)
    rw [show n - (n - i) = i from by omega] at this
    have := hm (n - i) (by omega)
    omega

def fit (f : Nat → Int) (n i : Nat) : Prop := pre f i ≤ 4078 ∧ suf f n i ≤ 4078
/-- how far the two sums lie apart -/
def gap (f : Nat → Int) (n i : Nat) : Int := if pre f i - suf f n i < suf f n i - pre f i then suf f n i - pre f i else pre f i - suf f n i
theorem gap_lt {f : Nat → Int} {n i : Nat} (h : pre f i - suf f n i < suf f n i - pre f i) : gap f n i = suf f n i - pre f i := if_pos h
theorem gap_ge {f : Nat → Int} {n i : Nat} (h : ¬ pre f i - suf f n i < suf f n i - pre f i) : gap f n i = pre f i - suf f n i := if_neg h
theorem gap_abs (f : Nat → Int) (n i : Nat) : max (pre f i - suf f n i) (-(pre f i - suf f n i)) = gap f n i := by
  unfold gap; split <;> omega

/-- what is known of the best cut among those below i -/
def Best (f : Nat → Int) (n i b : Nat) (g : Int) : Prop :=
  (b = 0 ∧ ∀ j, 1 ≤ j → j < i → ¬ fit f n j) ∨
  (1 ≤ b ∧ b < i ∧ fit f n b ∧ g = gap f n b ∧ ∀ j, 1 ≤ j → j < i → fit f n j → gap f n b ≤ gap f n j ∧ (j < b → gap f n b < gap f n j))

theorem Best.start (f : Nat → Int) (n : Nat) (g : Int) : Best f n 1 0 g := .inl ⟨rfl, fun j _ _ => by omega⟩
theorem Best.skip {f : Nat → Int} {n i b : Nat} {g : Int} (h : Best f n i b g) (hn : ¬ fit f n i) : Best f n (i + 1) b g := by
  rcases h with ⟨h1, h2⟩ | ⟨h1, h2, h3, h4, h5⟩
  · refine .inl ⟨h1, fun j g1 g2 => ?_⟩
    by_cases e : j = i
    · subst e; exact hn
    · exact h2 j g1 (by omega)
  · refine .inr ⟨h1, by omega, h3, h4, fun j g1 g2 g3 => ?_⟩
    by_cases e : j = i
    · subst e; exact absurd g3 hn
    · exact h5 j g1 (by omega) g3
theorem Best.keep {f : Nat → Int} {n i b : Nat} {g : Int} (h : Best f n i b g) (hb : b ≠ 0) (hg : g ≤ gap f n i) : Best f n (i + 1) b g := by
  rcases h with ⟨h1, h2⟩ | ⟨h1, h2, h3, h4, h5⟩
  · exact absurd h1 hb
  · refine .inr ⟨h1, by omega, h3, h4, fun j g1 g2 g3 => ?_⟩
    by_cases e : j = i
    · subst e; omega
    · exact h5 j g1 (by omega) g3
theorem Best.take {f : Nat → Int} {n i b : Nat} {g : Int} (h : Best f n i b g) (hi : 1 ≤ i) (hf : fit f n i) (hg : b = 0 ∨ gap f n i < g) : Best f n (i + 1) i (gap f n i) := by
  refine .inr ⟨hi, by omega, hf, rfl, fun j g1 g2 g3 => ?_⟩
  by_cases e : j = i
  · subst e; omega
  · rcases h with ⟨h1, h2⟩ | ⟨h1, h2, h3, h4, h5⟩
    · exact absurd g3 (h2 j g1 (by omega))
    · have := (h5 j g1 (by omega) g3).1
      omega
end Go.Proofs.Qxb6604034a
