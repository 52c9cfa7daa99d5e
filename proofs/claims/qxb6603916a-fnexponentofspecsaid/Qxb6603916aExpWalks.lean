import Derived.Test.Qxb6603916aRows
import Derived.WalkKit
import Derived.WalkSpells
import Derived.Deep.QuietTactic
import Derived.BigQuiet
import Derived.RegionTactic
namespace Go.Proofs.Qxb6603916a
open Go.RowKit

/-- a byte as a number: is it a decimal digit? -/
def digB (c : Nat) : Bool := decide (48 ≤ c ∧ c ≤ 57)

set_option maxHeartbeats 400000 in
theorem bytes_any (s : ByteArray) (w : World) (hs : s.size ≤ maxLen) :
    Calls Try.prog 7 #[.string s] w fun e w' => e = .returned (.bool (decide (s.size ≤ 1048576))) ∧ w' = w := by
  unfold maxLen at hs
  by_cases h : s.size ≤ 1048576
  · go_enter Try.func7, Try.ntmps7
    go_wp2
    go_ret
    exact ⟨by simp [h], rfl⟩
  · go_enter Try.func7, Try.ntmps7
    go_wp2
    go_ret
    exact ⟨by simp [h], rfl⟩

theorem isDigit_any (a : Int) (h0 : 0 ≤ a) (h1 : a ≤ 255) (w : World) :
    Calls Try.prog 12 #[.int .u8 a] w fun e w' => e = .returned (.bool (decide (48 ≤ a ∧ a ≤ 57))) ∧ w' = w := by
  go_enter Try.func12, Try.ntmps12
  go_wp2
  all_goals
    go_ret
    exact ⟨by simp; try omega, rfl⟩

/-- the bytes of s from i on, below k, are digits -/
def DigTo (s : ByteArray) (i k : Nat) : Prop := ∀ j (h : j < s.size), i ≤ j → j < k → digB (s[j]'h).toNat = true
theorem DigTo.succ {s : ByteArray} {i k : Nat} (h : DigTo s i k) (hk : k < s.size) (hd : 48 ≤ ((s[k]'hk).toNat : Int) ∧ ((s[k]'hk).toNat : Int) ≤ 57) : DigTo s i (k + 1) := by
  intro j hj hi hjk
  by_cases e : j = k
  · subst e; simp [digB]; omega
  · exact h j hj hi (by omega)

set_option maxHeartbeats 400000 in
theorem digitsOf_any (s : ByteArray) (w : World) (hs : s.size ≤ maxLen) :
    Calls Try.prog 13 #[.string s] w fun e w' => ∃ k : Nat, k ≤ s.size ∧ DigTo s 0 k ∧ (∀ h : k < s.size, digB (s[k]'h).toNat = false) ∧
      e = .returned (.tuple #[.string (s.extract 0 k), .string (s.extract k s.size)]) ∧ ∃ n, w' = w.drewN n := by
  unfold maxLen at hs
  go_enter Try.func13, Try.ntmps13
  go_wp2
  go_loop [4] (fun i => ∃ k : Nat, k ≤ s.size ∧ i = .int .i64 k ∧ DigTo s 0 k) (fun i => s.size - (intOf i).toNat)
  case atStart => exact ⟨0, Nat.zero_le _, rfl, fun _ _ _ h => by omega⟩
  case round =>
    obtain ⟨k, hk, rfl, hd⟩ := hrel
    by_cases hlt : k < s.size
    · go_wp2
      · go_round
        case rel => exact ⟨k + 1, by omega, by go_num, hd.succ hlt ⟨by assumption, by assumption⟩⟩
        case measure => simp [intOf]; omega
      · have hx : 57 < ((s[k]'hlt).toNat : Int) := by assumption
        go_quiet (fail)
        go_wp2
        go_ret2
        exact ⟨k, hk, hd, fun _ => by simp [digB]; omega, rfl, _, rfl⟩
      · have hx : ((s[k]'hlt).toNat : Int) < 48 := by assumption
        go_quiet (fail)
        go_wp2
        go_ret2
        exact ⟨k, hk, hd, fun _ => by simp [digB]; omega, rfl, _, rfl⟩
    · go_wp2
      go_quiet (fail)
      go_wp2
      go_ret2
      exact ⟨k, hk, hd, fun _ => by omega, rfl, _, rfl⟩
end Go.Proofs.Qxb6603916a
