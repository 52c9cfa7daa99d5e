import Derived.Test.Qxb6604034aRows
import Derived.Test.Qxb6604034aEvenPlain
import Derived.WalkKit
import Derived.WalkSpells
import Derived.WalkSmall
import Derived.WalkLawsBesides
namespace Go.Proofs.Qxb6604034a
open Go.RowKit

/-- a slice at a of n integers reads the numbers f -/
def Reads (w : World) (a : Option Addr) (n : Nat) (f : Nat → Int) : Prop :=
  0 < n → ∃ b off, a = some ⟨b, off, none⟩ ∧ ∀ j, j < n → w.cell? ⟨b, off + j, none⟩ = some (.int .i64 (f j))

theorem abs_any (x : Int) (h0 : -9223372036854775807 ≤ x) (h1 : x ≤ 9223372036854775807) (w : World) :
    Calls Try.prog 16 #[.int .i64 x] w fun e w' => e = .returned (.int .i64 (max x (-x))) ∧ w = w' := by
  by_cases h : x < 0
  · rw [Int.max_eq_right (by omega)]
    go_enter Try.func16, Try.ntmps16
    go_wp2
    go_ret
    exact ⟨rfl, rfl⟩
  · rw [Int.max_eq_left (by omega)]
    go_enter Try.func16, Try.ntmps16
    go_wp2
    go_ret
    exact ⟨rfl, rfl⟩

theorem bytes_any (a : Option Addr) (n c : Nat) (hn : n ≤ maxLen) (w : World) :
    Calls Try.prog 11 #[.slice a n c] w fun e w' => e = .returned (.bool (decide (n ≤ 1048576))) ∧ w = w' := by
  unfold maxLen at hn
  by_cases h : n ≤ 1048576
  · go_enter Try.func11, Try.ntmps11
    go_wp2
    go_ret
    exact ⟨by simp [h], rfl⟩
  · go_enter Try.func11, Try.ntmps11
    go_wp2
    go_ret
    exact ⟨by simp [h], rfl⟩

/-- the first k numbers lie within L of 0 -/
def LimTo (f : Nat → Int) (L : Int) (k : Nat) : Prop := ∀ j, j < k → -L ≤ f j ∧ f j ≤ L
theorem LimTo.zero (f : Nat → Int) (L : Int) : LimTo f L 0 := fun j h => absurd h (Nat.not_lt_zero j)
theorem LimTo.succ {f : Nat → Int} {L : Int} {k : Nat} (h : LimTo f L k) (hk : -L ≤ f k ∧ f k ≤ L) : LimTo f L (k + 1) := by
  intro j hj
  by_cases e : j = k
  · subst e; exact hk
  · exact h j (by omega)

def FitPost (f : Nat → Int) (n : Nat) (e : Ending) : Prop := ∃ b, e = .returned (.bool b) ∧ (b = true → Fits f n)

set_option maxHeartbeats 400000 in
theorem evenFit_any (a : Option Addr) (n c : Nat) (f : Nat → Int) (hn : n ≤ 131072) (w : World) (hr : Reads w a n f) (hf : ∀ j, -9223372036854775808 ≤ f j ∧ f j ≤ 9223372036854775807) :
    Calls Try.prog 12 #[.slice a n c] w fun e w' => FitPost f n e ∧ w = w' := by
  have hL0 : 0 ≤ 2305843009213693951 / ((n : Int) + 1) := Int.ediv_nonneg (by omega) (by omega)
  have hL1 : 2305843009213693951 / ((n : Int) + 1) ≤ 2305843009213693951 := Int.ediv_le_self _ (by omega)
  have hL2 : 2305843009213693951 / ((n : Int) + 1) * ((n : Int) + 1) ≤ 2305843009213693951 := Int.ediv_mul_le _ (by omega)
  go_enter Try.func12, Try.ntmps12
  go_wp2
  generalize 2305843009213693951 / ((n : Int) + 1) = L at *
  have HL2 : Hid (L * ((n : Int) + 1) ≤ 2305843009213693951) := hL2
  clear hL2
  go_loop [4] (fun i => ∃ k : Nat, k ≤ n ∧ i = .int .i64 k ∧ LimTo f L k) (fun i => n - (intOf i).toNat)
  case atStart => exact ⟨0, by omega, rfl, LimTo.zero f L⟩
  case round =>
    obtain ⟨k, hk, rfl, hlim⟩ := hrel
    by_cases hlt : k < n
    · obtain ⟨b, off, rfl, hc⟩ := hr (by omega)
      have hck := hc k hlt
      obtain ⟨f0, f1⟩ := hf k
      have X := fun h => hlim.succ h
      clear hc hr hf hlim
      generalize f k = y at *
      by_cases h1 : L < y
      · go_wp2
        go_ret
        exact ⟨⟨_, rfl, fun h => by cases h⟩, rfl⟩
      · by_cases h2 : y < -L
        · go_wp2
          go_ret
          exact ⟨⟨_, rfl, fun h => by cases h⟩, rfl⟩
        · have X' := X ⟨by omega, by omega⟩
          clear X
          go_wp2
          go_round
          case rel => exact ⟨k + 1, by omega, by go_num, X'⟩
          case measure => simp [intOf]; omega
    · have X : Fits f n := fits_of f n L hL0 HL2.out (fun j hj => hlim j (by omega))
      clear hr hf hlim
      go_wp2
      go_ret
      exact ⟨⟨_, rfl, fun _ => X⟩, rfl⟩

/-- too long: the guard says no -/
theorem evenFit_long (a : Option Addr) (n c : Nat) (hn : 131072 < n) (hm : n ≤ maxLen) (w : World) :
    Calls Try.prog 12 #[.slice a n c] w fun e w' => e = .returned (.bool false) ∧ w = w' := by
  unfold maxLen at hm
  go_enter Try.func12, Try.ntmps12
  go_wp2
  go_ret
  exact ⟨rfl, rfl⟩

def CutPost (f : Nat → Int) (n : Nat) (e : Ending) : Prop := ∃ (b : Nat) (g : Int), e = .returned (.int .i64 b) ∧ Best f n (max 1 n) b g

set_option maxHeartbeats 1000000 in
theorem evenCut_any (a : Option Addr) (n c : Nat) (f : Nat → Int) (hn : n ≤ 131072) (w : World) (hr : Reads w a n f) (hf : Fits f n) :
    Calls Try.prog 18 #[.slice a n c] w fun e w' => CutPost f n e ∧ w = w' := by
  go_enter Try.func18, Try.ntmps18
  go_wp2
  go_loop [3, 5, 14] (fun t _ i => ∃ k : Nat, k ≤ n ∧ i = .int .i64 k ∧ t = .int .i64 (pre f k)) (fun _ _ i => n - (intOf i).toNat)
  case atStart => exact ⟨0, by omega, rfl, rfl⟩
  case round =>
    obtain ⟨k, hk, rfl, rfl⟩ := hrel
    by_cases hlt : k < n
    · obtain ⟨b, off, rfl, hc⟩ := hr (by omega)
      have hck := hc k hlt
      obtain ⟨f0, f1⟩ := hf.el k hlt
      obtain ⟨p0, p1⟩ := hf.pre k hk
      have ps : Hid (pre f k + f k = pre f (k + 1)) := (pre_succ f k).symm
      clear hc hr
      go_wp2
      go_round
      case rel => exact ⟨k + 1, by omega, by go_num, by rw [ps.out]⟩
      case measure => simp [intOf]; omega
    · obtain rfl : k = n := by omega
      have HF : Hid (Fits f k) := hf
      clear hf
      go_wp2
      go_loop [6, 7, 8, 9] (fun vb vg vl vi => ∃ (m b : Nat) (g : Int), (m = 0 ∨ m + 1 ≤ k) ∧ b ≤ k ∧ vi = .int .i64 ((m : Int) + 1) ∧ vb = .int .i64 b ∧ vg = .int .i64 g ∧ vl = .int .i64 (pre f m) ∧ Best f k (m + 1) b g) (fun _ _ _ vi => k - (intOf vi).toNat)
      case atStart => exact ⟨0, 0, 0, .inl rfl, by omega, rfl, rfl, rfl, rfl, Best.start f k 0⟩
      case round =>
        obtain ⟨m, b, g, hm, hbk, rfl, rfl, rfl, rfl, hbest⟩ := hrel
        by_cases hlt2 : m + 1 < k
        · obtain ⟨bl, off, rfl, hc⟩ := hr (by omega)
          have hck := hc m (by omega)
          obtain ⟨f0, f1⟩ := HF.out.el m (by omega)
          obtain ⟨p0, p1⟩ := HF.out.pre m (by omega)
          obtain ⟨p2, p3⟩ := HF.out.pre (m + 1) (by omega)
          obtain ⟨q0, q1⟩ := HF.out.suf (m + 1) (by omega)
          obtain ⟨t0, t1⟩ := HF.out.pre k (by omega)
          have hfit : fit f k (m + 1) ↔ (pre f m + f m ≤ 4078 ∧ pre f k - (pre f m + f m) ≤ 4078) := Iff.rfl
          have es : suf f k (m + 1) = pre f k - (pre f m + f m) := rfl
          have ep : pre f (m + 1) = pre f m + f m := rfl
          rw [ep] at p2 p3
          rw [es] at q0 q1
          obtain ⟨G, hG, hGE⟩ : ∃ G, G = gap f k (m + 1) ∧ G = if pre f m + f m - (pre f k - (pre f m + f m)) < pre f k - (pre f m + f m) - (pre f m + f m) then pre f k - (pre f m + f m) - (pre f m + f m) else pre f m + f m - (pre f k - (pre f m + f m)) := ⟨_, rfl, rfl⟩
          have T : Hid (fit f k (m + 1) → (b = 0 ∨ G < g) → Best f k (m + 1 + 1) (m + 1) G) := fun h h' => hG ▸ hbest.take (by omega) h (hG ▸ h')
          have K : Hid (b ≠ 0 → g ≤ G → Best f k (m + 1 + 1) b g) := fun h h' => hbest.keep h (hG ▸ h')
          have S : Hid (¬ fit f k (m + 1) → Best f k (m + 1 + 1) b g) := fun h => hbest.skip h
          have HFIT : Hid (fit f k (m + 1) ↔ (pre f m + f m ≤ 4078 ∧ pre f k - (pre f m + f m) ≤ 4078)) := hfit
          clear hc hr hG hfit es ep hbest HF
          by_cases c5 : pre f m + f m - (pre f k - (pre f m + f m)) < pre f k - (pre f m + f m) - (pre f m + f m)
          all_goals
            first | rw [if_pos c5] at hGE | rw [if_neg c5] at hGE
            have HG : Hid (G = _) := hGE
            clear hGE
            by_cases c1 : pre f m + f m ≤ 4078
            · by_cases c2 : pre f k - (pre f m + f m) ≤ 4078
              · have hf1 := HFIT.out.2 ⟨c1, c2⟩
                by_cases c3 : b = 0
                · subst c3
                  have X := T.out hf1 (.inl rfl)
                  clear T K S HFIT hf1
                  go_wp2
                  go_round
                  case rel => exact ⟨m + 1, m + 1, G, .inr (by omega), by omega, by go_num, by go_num, by rw [HG.out], rfl, X⟩
                  case measure => simp [intOf]; omega
                · have c3' : ((b : Int) == 0) = false := beq_eq_false_iff_ne.2 (by omega)
                  by_cases c4 : G < g
                  · have X := T.out hf1 (.inr c4)
                    rw [HG.out] at c4
                    clear T K S HFIT hf1
                    go_wp2
                    go_round
                    case rel => exact ⟨m + 1, m + 1, G, .inr (by omega), by omega, by go_num, by go_num, by rw [HG.out], rfl, X⟩
                    case measure => simp [intOf]; omega
                  · have X := K.out c3 (by omega)
                    rw [HG.out] at c4
                    clear T K S HFIT hf1
                    go_wp2
                    go_round
                    case rel => exact ⟨m + 1, b, g, .inr (by omega), by omega, by go_num, rfl, rfl, rfl, X⟩
                    case measure => simp [intOf]; omega
              · have X := S.out (fun h => c2 (HFIT.out.1 h).2)
                clear T K S HFIT
                go_wp2
                all_goals
                  go_round
                  case rel => exact ⟨m + 1, b, g, .inr (by omega), by omega, by go_num, rfl, rfl, rfl, X⟩
                  case measure => simp [intOf]; omega
            · have X := S.out (fun h => c1 (HFIT.out.1 h).1)
              clear T K S HFIT
              go_wp2
              all_goals
                go_round
                case rel => exact ⟨m + 1, b, g, .inr (by omega), by omega, by go_num, rfl, rfl, rfl, X⟩
                case measure => simp [intOf]; omega
        · have X : Best f k (max 1 k) b g := by
            rw [show max 1 k = m + 1 from by omega]; exact hbest
          clear hbest hr
          go_wp2
          go_ret
          exact ⟨⟨b, g, rfl, X⟩, rfl⟩

theorem zzEvenCut_any (a : Option Addr) (n c : Nat) (f : Nat → Int) (hn : n ≤ 131072) (w : World) (hr : Reads w a n f) (hf : Fits f n) :
    Calls Try.prog 14 #[.slice a n c] w fun e w' => CutPost f n e ∧ w = w' := by
  go_enter Try.func14, Try.ntmps14
  go_wp2_with (go_at_call 18; refine (evenCut_any _ _ _ f hn _ hr hf).mono ?_; rintro e w' ⟨⟨b, g, rfl, hb⟩, rfl⟩)
  go_ret
  exact ⟨⟨b, g, rfl, hb⟩, rfl⟩

end Go.Proofs.Qxb6604034a
