import Derived.Test.Qxb6603916aRows
import Derived.WalkKit
import Derived.WalkSpells
namespace Go.Proofs.Qxb6603916a
open Go.RowKit

def hexV (a : Int) : Int := if 48 ≤ a ∧ a ≤ 57 then a - 48 else if 97 ≤ a ∧ a ≤ 102 then a - 87 else if 65 ≤ a ∧ a ≤ 70 then a - 55 else 0
def hexOk (a : Int) : Bool := decide ((48 ≤ a ∧ a ≤ 57) ∨ (97 ≤ a ∧ a ≤ 102) ∨ (65 ≤ a ∧ a ≤ 70))

theorem ret_hex {x y : Int} {p q : Bool} (h : x = y) (g : p = q) : Ending.returned (.tuple #[.int .i32 x, .bool p]) = .returned (.tuple #[.int .i32 y, .bool q]) := by rw [h, g]

set_option maxHeartbeats 400000 in
theorem hexDigit_any (a : Int) (h0 : 0 ≤ a) (h1 : a ≤ 255) (w : World) :
    Calls Try.prog 10 #[.int .u8 a] w fun e w' => e = .returned (.tuple #[.int .i32 (hexV a), .bool (hexOk a)]) ∧ w' = w := by
  go_enter Try.func10, Try.ntmps10
  go_wp2
  all_goals
    go_ret2
    exact ⟨ret_hex (by unfold hexV; omega) (by unfold hexOk; simp; omega), rfl⟩

theorem zzhexDigit_any (a : Int) (h0 : 0 ≤ a) (h1 : a ≤ 255) (w : World) :
    Calls Try.prog 5 #[.int .u8 a] w fun e w' => e = .returned (.tuple #[.int .i32 (hexV a), .bool (hexOk a)]) ∧ w' = w := by
  go_enter Try.func5, Try.ntmps5
  go_wp2_with (go_at_call 10; refine (hexDigit_any _ (by omega) (by omega) _).mono ?_; rintro e w' ⟨rfl, rfl⟩)
  go_ret2
  exact ⟨rfl, rfl⟩

def hexMiss (k : Nat) (a : Int) : Prop := (a < 48 ∨ 48 + k ≤ a ∨ 57 < a) ∧ (a < 97 ∨ 97 + (k - 10 : Nat) ≤ a) ∧ (a < 65 ∨ 65 + (k - 10 : Nat) ≤ a)

theorem low_at : ∀ k : Nat, (h : k < 16) → ((({ data := #[48, 49, 50, 51, 52, 53, 54, 55, 56, 57, 97, 98, 99, 100, 101, 102] } : ByteArray)[k]'h).toNat = 48 + k ∧ k < 10 ∨ (({ data := #[48, 49, 50, 51, 52, 53, 54, 55, 56, 57, 97, 98, 99, 100, 101, 102] } : ByteArray)[k]'h).toNat = 87 + k ∧ 10 ≤ k) := by decide
theorem up_at : ∀ k : Nat, (h : k < 16) → ((({ data := #[48, 49, 50, 51, 52, 53, 54, 55, 56, 57, 65, 66, 67, 68, 69, 70] } : ByteArray)[k]'h).toNat = 48 + k ∧ k < 10 ∨ (({ data := #[48, 49, 50, 51, 52, 53, 54, 55, 56, 57, 65, 66, 67, 68, 69, 70] } : ByteArray)[k]'h).toNat = 55 + k ∧ 10 ≤ k) := by decide

theorem hit_v {k : Nat} {a : Int} (h : (a = 48 + k ∧ k < 10) ∨ (a = 87 + k ∧ 10 ≤ k ∧ k < 16) ∨ (a = 55 + k ∧ 10 ≤ k ∧ k < 16)) : (k : Int) = hexV a := by
  unfold hexV; split
  · omega
  · split
    · omega
    · split <;> omega
theorem hit_ok {k : Nat} {a : Int} (h : (a = 48 + k ∧ k < 10) ∨ (a = 87 + k ∧ 10 ≤ k ∧ k < 16) ∨ (a = 55 + k ∧ 10 ≤ k ∧ k < 16)) : true = hexOk a := by
  unfold hexOk; simp; omega

set_option maxHeartbeats 400000 in
theorem hexModel_any (a : Int) (h0 : 0 ≤ a) (h1 : a ≤ 255) (w : World) :
    Calls Try.prog 6 #[.int .u8 a] w fun e w' => e = .returned (.tuple #[.int .i32 (hexV a), .bool (hexOk a)]) ∧ w' = w := by
  go_enter Try.func6, Try.ntmps6
  go_wp2
  go_loop [4] (fun i => ∃ k : Nat, k ≤ 16 ∧ i = .int .i64 k ∧ hexMiss k a) (fun i => 16 - (intOf i).toNat)
  case atStart => exact ⟨0, by omega, rfl, by unfold hexMiss; omega⟩
  case round =>
    obtain ⟨k, hk, rfl, hm⟩ := hrel
    by_cases hlt : k < 16
    · go_wp2
      all_goals have hl := low_at k hlt
      all_goals have hu := up_at k hlt
      · have hx : ((({ data := #[48, 49, 50, 51, 52, 53, 54, 55, 56, 57, 97, 98, 99, 100, 101, 102] } : ByteArray)[k]'hlt).toNat : Int) = a := by assumption
        go_ret2
        exact ⟨ret_hex (hit_v (by omega)) (hit_ok (k := k) (by omega)), rfl⟩
      · have hx : ¬ ((({ data := #[48, 49, 50, 51, 52, 53, 54, 55, 56, 57, 97, 98, 99, 100, 101, 102] } : ByteArray)[k]'hlt).toNat : Int) = a := by assumption
        have hy : (((({ data := #[48, 49, 50, 51, 52, 53, 54, 55, 56, 57, 97, 98, 99, 100, 101, 102] } : ByteArray)[k]'hlt).toNat : Int) == a) = true ∨ (((({ data := #[48, 49, 50, 51, 52, 53, 54, 55, 56, 57, 65, 66, 67, 68, 69, 70] } : ByteArray)[k]'hlt).toNat : Int) == a) = true := by assumption
        simp only [beq_iff_eq] at hy
        go_ret2
        exact ⟨ret_hex (hit_v (by omega)) (hit_ok (k := k) (by omega)), rfl⟩
      · have hy : (((({ data := #[48, 49, 50, 51, 52, 53, 54, 55, 56, 57, 97, 98, 99, 100, 101, 102] } : ByteArray)[k]'hlt).toNat : Int) == a) = false ∧ (((({ data := #[48, 49, 50, 51, 52, 53, 54, 55, 56, 57, 65, 66, 67, 68, 69, 70] } : ByteArray)[k]'hlt).toNat : Int) == a) = false := by assumption
        simp only [beq_eq_false_iff_ne] at hy
        unfold hexMiss at hm
        go_round
        case rel => exact ⟨k + 1, by omega, by go_num, by unfold hexMiss; omega⟩
        case measure => simp [intOf]; omega
    · go_wp2
      go_ret2
      exact ⟨ret_hex (by unfold hexV; unfold hexMiss at hm; omega) (by unfold hexOk;  unfold hexMiss at hm; simp; omega), rfl⟩
end Go.Proofs.Qxb6603916a
