import Derived.Test.Qxb6604024aRows
import Derived.Test.Qxb6604024aJumpPlain
import Derived.WalkKit
import Derived.WalkSpells
namespace Go.Proofs.Qxb6604024a
open Go.RowKit

theorem ret_int {k : IntKind} {a b : Int} (h : a = b) : Ending.returned (.int k a) = .returned (.int k b) := by rw [h]

theorem jump_le (o l p : Int) (h : o ≤ l) (w : World) :
    Calls Try.prog 20 #[.int .i64 o, .int .i64 l, .int .i64 p] w fun e w' => e = .returned (.int .i64 0) ∧ w = w' := by
  go_enter Try.func20, Try.ntmps20
  go_wp2
  go_ret
  exact ⟨rfl, rfl⟩

set_option maxHeartbeats 400000 in
theorem jump_any (o l p : Int) (h : l < o) (hl : 0 ≤ l) (ho : o ≤ 9223372036854775807) (hp : 1 ≤ p) (hp' : p ≤ 9223372036854775806) (w : World) :
    Calls Try.prog 20 #[.int .i64 o, .int .i64 l, .int .i64 p] w fun e w' => (∃ K : Nat, 1 ≤ K ∧ K ≤ 63 ∧ IsK o l (p + 1) K ∧ e = .returned (.int .i64 (1 + K))) ∧ w = w' := by
  go_enter Try.func20, Try.ntmps20
  go_wp2
  go_loop [7, 8] (fun t s => ∃ m : Nat, m ≤ 63 ∧ Run o l (p + 1) m ∧ t = .int .i64 (1 + m) ∧ s = .int .i64 (o / (p + 1) ^ m)) (fun t _ => 65 - (intOf t).toNat)
  case atStart => exact ⟨0, by omega, Run.zero _ _ _, rfl, by simp⟩
  case round =>
    obtain ⟨m, hm, hr, rfl, rfl⟩ := hrel
    have hb := span_bd o (p + 1) m (by omega) (by omega)
    have hg := span_gt o l (p + 1) m (by omega)
    have hs := span_succ o (p + 1) m (by omega)
    obtain ⟨sp, hsp⟩ : ∃ sp, sp = o / (p + 1) ^ m := ⟨_, rfl⟩
    rw [← hsp] at hb hg hs ⊢
    have HS : Hid (sp / (p + 1) = o / (p + 1) ^ (m + 1)) := hs
    have HG : Hid (l < sp ↔ (l + 1) * (p + 1) ^ m ≤ o) := hg
    have HR : Hid (sp = o / (p + 1) ^ m) := hsp
    clear hs hg hsp
    obtain ⟨hb0, hb1⟩ := hb
    by_cases hc : l < sp
    · have hr' := hr.succ (HG.out.1 hc)
      have hm' := hr'.le hl (by omega) ho
      go_wp2
      go_round
      case rel => exact ⟨m + 1, hm', hr', by go_num, by rw [HS.out]⟩
      case measure => simp [intOf]; omega
    · have hk : IsK o l (p + 1) m := ⟨hr, by have := HG.out; omega⟩
      have hm1 : 1 ≤ m := by
        refine Nat.one_le_iff_ne_zero.2 fun e => ?_
        subst e
        have := hk.2
        simp at this
        omega
      go_wp2
      go_ret
      exact ⟨⟨m, hm1, hm, hk, rfl⟩, rfl⟩

/-- where probes + 1 wraps, one division ends the loop -/
theorem wrap_max (p : Int) (h : 9223372036854775806 < p) (h' : p ≤ 9223372036854775807) : wrap64 (p + 1) = -9223372036854775808 := by
  unfold wrap64; omega
theorem div_max (x : Int) (h : 0 ≤ x) (h' : x ≤ 9223372036854775807) : wrap64 (x.tdiv (-9223372036854775808)) = 0 := by
  have : x.tdiv (-9223372036854775808) = 0 := by
    rw [Int.tdiv_neg, Int.tdiv_eq_zero_of_lt h (by omega)]; rfl
  rw [this]; unfold wrap64; omega

set_option maxHeartbeats 400000 in
theorem jump_max (o l p : Int) (h : l < o) (hl : 0 ≤ l) (ho : o ≤ 9223372036854775807) (hp : 9223372036854775806 < p) (hp' : p ≤ 9223372036854775807) (w : World) :
    Calls Try.prog 20 #[.int .i64 o, .int .i64 l, .int .i64 p] w fun e w' => e = .returned (.int .i64 2) ∧ w = w' := by
  go_enter Try.func20, Try.ntmps20
  go_wp2
  go_loop [7, 8] (fun t s => (t = .int .i64 1 ∧ s = .int .i64 o) ∨ (t = .int .i64 2 ∧ s = .int .i64 0)) (fun t _ => 2 - (intOf t).toNat)
  case atStart => exact .inl ⟨rfl, rfl⟩
  case round =>
    rcases hrel with ⟨rfl, rfl⟩ | ⟨rfl, rfl⟩
    · have e1 := wrap_max p hp hp'
      have e2 := div_max o (by omega) ho
      have hne : ¬ wrap64 (p + 1) = 0 := by rw [e1]; omega
      have E1 : Hid (wrap64 (p + 1) = -9223372036854775808) := e1
      have E2 : Hid (wrap64 (o.tdiv (-9223372036854775808)) = 0) := e2
      clear e1 e2
      go_wp2
      go_round
      case rel => exact .inr ⟨rfl, by rw [E1.out, E2.out]⟩
      case measure => simp [intOf]
    · go_wp2
      go_ret
      exact ⟨rfl, rfl⟩

set_option maxHeartbeats 400000 in
theorem product_any (o l b : Int) (h : l < o) (hl : 0 ≤ l) (ho : o ≤ 9223372036854775807) (hb : 2 ≤ b) (hb' : b ≤ 9223372036854775807) (w : World) :
    Calls Try.prog 10 #[.int .i64 o, .int .i64 l, .int .i64 b] w fun e w' => (∃ K : Nat, IsK o l b K ∧ e = .returned (.int .i64 (1 + K))) ∧ w = w' := by
  go_enter Try.func10, Try.ntmps10
  go_wp2
  go_loop [7, 8] (fun t s => ∃ m : Nat, m ≤ 63 ∧ Run o l b (m + 1) ∧ t = .int .i64 m ∧ s = .int .i64 ((l + 1) * b ^ m)) (fun t _ => 65 - (intOf t).toNat)
  case atStart => exact ⟨0, by omega, (Run.zero _ _ _).succ (by simp; omega), rfl, by simp⟩
  case round =>
    obtain ⟨m, hm, hr, rfl, rfl⟩ := hrel
    have hle := hr m (by omega)
    have hpos : 0 ≤ (l + 1) * b ^ m := Int.mul_nonneg (by omega) (Int.le_of_lt (pow_pos' b hb m))
    have hd : (l + 1) * b ^ m ≤ o / b ↔ (l + 1) * b ^ m * b ≤ o := Int.le_ediv_iff_mul_le (by omega)
    have hs : (l + 1) * b ^ m * b = (l + 1) * b ^ (m + 1) := by rw [Int.pow_succ, Int.mul_assoc]
    obtain ⟨pp, hpp⟩ : ∃ pp, pp = (l + 1) * b ^ m := ⟨_, rfl⟩
    rw [← hpp] at hle hpos hd hs ⊢
    have hm63 := hr.le hl hb ho
    have HD : Hid (pp ≤ o / b ↔ pp * b ≤ o) := hd
    have HS : Hid (pp * b = (l + 1) * b ^ (m + 1)) := hs
    clear hpp hd hs
    by_cases hc : pp * b ≤ o
    · have hc2 : pp ≤ o / b := HD.out.2 hc
      have hmul : 0 ≤ pp * b := Int.mul_nonneg hpos (by omega)
      have hr' := hr.succ (by rw [← HS.out]; exact hc)
      have hm2 := hr'.le hl hb ho
      go_wp2
      go_round
      case rel => exact ⟨m + 1, by omega, hr', by go_num, by rw [HS.out]⟩
      case measure => simp [intOf]; omega
    · have hc2 : o / b < pp := by have := HD.out; omega
      have hk : IsK o l b (m + 1) := ⟨hr, by rw [← HS.out]; omega⟩
      go_wp2
      go_ret
      exact ⟨⟨m + 1, hk, ret_int (by omega)⟩, rfl⟩

set_option maxHeartbeats 400000 in
theorem bitLen_any (o : Int) (h : 0 < o) (ho : o ≤ 9223372036854775807) (w : World) :
    Calls Try.prog 11 #[.int .i64 o] w fun e w' => (∃ N : Nat, N ≤ 63 ∧ IsK o 0 2 N ∧ e = .returned (.int .i64 N)) ∧ w = w' := by
  go_enter Try.func11, Try.ntmps11
  go_wp2
  go_loop [0, 3] (fun s t => ∃ m : Nat, m ≤ 63 ∧ Run o 0 2 m ∧ t = .int .i64 m ∧ s = .int .i64 (o / 2 ^ m)) (fun _ t => 65 - (intOf t).toNat)
  case atStart => exact ⟨0, by omega, Run.zero _ _ _, rfl, by simp⟩
  case round =>
    obtain ⟨m, hm, hr, rfl, rfl⟩ := hrel
    have hb := span_bd o 2 m (by omega) (by omega)
    have hg := span_gt o 0 2 m (by omega)
    have hs := span_succ o 2 m (by omega)
    obtain ⟨sp, hsp⟩ : ∃ sp, sp = o / 2 ^ m := ⟨_, rfl⟩
    rw [← hsp] at hb hg hs ⊢
    have HS : Hid (sp / 2 = o / 2 ^ (m + 1)) := hs
    have HG : Hid (0 < sp ↔ (0 + 1) * 2 ^ m ≤ o) := hg
    clear hs hg hsp
    obtain ⟨hb0, hb1⟩ := hb
    by_cases hc : 0 < sp
    · have hr' := hr.succ (HG.out.1 hc)
      have hm' := hr'.le (by omega) (by omega) ho
      go_wp2
      go_round
      case rel => exact ⟨m + 1, hm', hr', by go_num, by rw [HS.out]⟩
      case measure => simp [intOf]; omega
    · have hk : IsK o 0 2 m := ⟨hr, by have := HG.out; omega⟩
      go_wp2
      go_ret
      exact ⟨⟨m, hm, hk, rfl⟩, rfl⟩

theorem zzjump_le (o l p : Int) (h : o ≤ l) (w : World) :
    Calls Try.prog 9 #[.int .i64 o, .int .i64 l, .int .i64 p] w fun e w' => e = .returned (.int .i64 0) ∧ w = w' := by
  go_enter Try.func9, Try.ntmps9
  go_wp2_with (go_at_call 20; refine (jump_le _ _ _ h _).mono ?_; rintro e w' ⟨rfl, rfl⟩)
  go_ret
  exact ⟨rfl, rfl⟩
theorem zzjump_max (o l p : Int) (h : l < o) (hl : 0 ≤ l) (ho : o ≤ 9223372036854775807) (hp : 9223372036854775806 < p) (hp' : p ≤ 9223372036854775807) (w : World) :
    Calls Try.prog 9 #[.int .i64 o, .int .i64 l, .int .i64 p] w fun e w' => e = .returned (.int .i64 2) ∧ w = w' := by
  go_enter Try.func9, Try.ntmps9
  go_wp2_with (go_at_call 20; refine (jump_max _ _ _ h hl ho hp hp' _).mono ?_; rintro e w' ⟨rfl, rfl⟩)
  go_ret
  exact ⟨rfl, rfl⟩
theorem zzjump_any (o l p : Int) (h : l < o) (hl : 0 ≤ l) (ho : o ≤ 9223372036854775807) (hp : 1 ≤ p) (hp' : p ≤ 9223372036854775806) (w : World) :
    Calls Try.prog 9 #[.int .i64 o, .int .i64 l, .int .i64 p] w fun e w' => (∃ K : Nat, 1 ≤ K ∧ K ≤ 63 ∧ IsK o l (p + 1) K ∧ e = .returned (.int .i64 (1 + K))) ∧ w = w' := by
  go_enter Try.func9, Try.ntmps9
  go_wp2_with (go_at_call 20; refine (jump_any _ _ _ h hl ho hp hp' _).mono ?_; rintro e w' ⟨⟨K, hK1, hK2, hK, rfl⟩, rfl⟩)
  go_ret
  exact ⟨⟨K, hK1, hK2, hK, rfl⟩, rfl⟩
end Go.Proofs.Qxb6604024a
