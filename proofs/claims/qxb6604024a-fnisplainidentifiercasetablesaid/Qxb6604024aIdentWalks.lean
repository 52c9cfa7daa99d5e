import Derived.Test.Qxb6604024aRows
import Derived.WalkKit
import Derived.WalkSpells
import Derived.WalkSmall
import Derived.Lib.Strings
import Derived.Laws.IdiomStrings
namespace Go.Proofs.Qxb6604024a
open Go.RowKit

/-- the class of a byte: 2 opens an identifier, 1 is a digit, 0 is neither -/
def cls (a : Int) : Int := if a = 95 then 2 else if 48 ≤ a ∧ a ≤ 57 then 1 else if (97 ≤ a ∧ a ≤ 122) ∨ (65 ≤ a ∧ a ≤ 90) then 2 else 0

theorem ret_int {k : IntKind} {a b : Int} (h : a = b) : Ending.returned (.int k a) = .returned (.int k b) := by rw [h]

theorem or_letter : ∀ n : Nat, n < 256 → ((97 ≤ bits .or .u8 (n : Int) 32 ∧ bits .or .u8 (n : Int) 32 ≤ 122) ↔ ((97 ≤ n ∧ n ≤ 122) ∨ (65 ≤ n ∧ n ≤ 90))) := by decide +kernel

set_option maxHeartbeats 400000 in
theorem bytes_any (s : ByteArray) (w : World) (hs : s.size ≤ maxLen) :
    Calls Try.prog 12 #[.string s] w fun e w' => e = .returned (.bool (decide (s.size ≤ 1048576))) ∧ w = w' := by
  unfold maxLen at hs
  by_cases h : s.size ≤ 1048576
  · go_enter Try.func12, Try.ntmps12
    go_wp2
    go_ret
    exact ⟨by simp [h], rfl⟩
  · go_enter Try.func12, Try.ntmps12
    go_wp2
    go_ret
    exact ⟨by simp [h], rfl⟩

set_option maxHeartbeats 400000 in
theorem class_any (a : Int) (h0 : 0 ≤ a) (h1 : a ≤ 255) (w : World) :
    Calls Try.prog 22 #[.int .u8 a] w fun e w' => e = .returned (.int .i64 (cls a)) ∧ w = w' := by
  have hor : (97 ≤ bits .or .u8 a 32 ∧ bits .or .u8 a 32 ≤ 122) ↔ ((97 ≤ a ∧ a ≤ 122) ∨ (65 ≤ a ∧ a ≤ 90)) := by
    obtain ⟨n, rfl⟩ : ∃ n : Nat, a = n := ⟨a.toNat, by omega⟩
    have := or_letter n (by omega)
    omega
  have HOR : Hid ((97 ≤ bits .or .u8 a 32 ∧ bits .or .u8 a 32 ≤ 122) ↔ ((97 ≤ a ∧ a ≤ 122) ∨ (65 ≤ a ∧ a ≤ 90))) := hor
  clear hor
  by_cases hu : a = 95
  · subst hu
    go_enter Try.func22, Try.ntmps22
    go_wp2
    go_ret
    exact ⟨rfl, rfl⟩
  · have hu' : (a == 95) = false := by simp; exact hu
    go_enter Try.func22, Try.ntmps22
    go_wp2
    all_goals
      go_ret
      refine ⟨ret_int ?_, rfl⟩
      have hor := HOR.out
      unfold cls
      rw [if_neg hu]
      split
      · omega
      · split <;> omega

theorem size_list (s : ByteArray) : s.data.toList.length = s.size := by obtain ⟨⟨l⟩⟩ := s; simp [ByteArray.size]
/-- the byte at j as a number; 0 beyond the end -/
def bt (s : ByteArray) (j : Nat) : Int := ((s.data.toList.getD j 0).toNat : Int)
theorem bt_get (s : ByteArray) (j : Nat) (h : j < s.size) : ((s[j]'h).toNat : Int) = bt s j := by
  unfold bt
  have : s.data.toList.getD j 0 = s[j]'h := by
    obtain ⟨⟨l⟩⟩ := s
    have h' : j < l.length := by simpa [ByteArray.size] using h
    simp [List.getD_eq_getElem?_getD, List.getElem?_eq_getElem h']; rfl
  rw [this]
theorem bt_bd (s : ByteArray) (j : Nat) : 0 ≤ bt s j ∧ bt s j ≤ 255 := by
  unfold bt
  have := (s.data.toList.getD j 0).toNat_lt
  omega

/-- no byte of class 0 from i on below k -/
def InTo (s : ByteArray) (i k : Nat) : Prop := ∀ j, i ≤ j → j < k → cls (bt s j) ≠ 0
theorem InTo.succ {s : ByteArray} {i k : Nat} (h : InTo s i k) (hk : cls (bt s k) ≠ 0) : InTo s i (k + 1) := by
  intro j h1 h2
  by_cases e : j = k
  · subst e; exact hk
  · exact h j h1 (by omega)
def Plain (s : ByteArray) : Prop := 1 ≤ s.size ∧ s.size ≤ 64 ∧ cls (bt s 0) = 2 ∧ InTo s 1 s.size
def PPost (s : ByteArray) (w : World) (e : Ending) (w' : World) : Prop := ∃ b, e = .returned (.bool b) ∧ (b = true ↔ Plain s) ∧ Below w.heap.size w w'

theorem cls_cases (a : Int) : cls a = 0 ∨ cls a = 1 ∨ cls a = 2 := by
  unfold cls; split
  · simp
  · split
    · simp
    · split <;> simp
theorem cls_dig (a : Int) : cls a = 1 ↔ 48 ≤ a ∧ a ≤ 57 := by
  unfold cls; split
  · omega
  · split
    · simp; omega
    · split <;> omega
theorem cls_zero (a : Int) : cls a = 0 ↔ ¬ a = 95 ∧ ¬ (48 ≤ a ∧ a ≤ 57) ∧ ¬ (97 ≤ a ∧ a ≤ 122) ∧ ¬ (65 ≤ a ∧ a ≤ 90) := by
  unfold cls; split
  · omega
  · split
    · omega
    · split <;> omega

set_option maxHeartbeats 400000 in
theorem model_any (s : ByteArray) (w : World) (hs : s.size ≤ 1048576) :
    Calls Try.prog 14 #[.string s] w fun e w' => PPost s w e w' := by
  by_cases h0 : s.size < 1
  · go_enter Try.func14, Try.ntmps14
    go_wp2
    go_ret
    exact ⟨_, rfl, by unfold Plain; simp; omega, Below.refl _ _⟩
  by_cases h64 : 64 < s.size
  · go_enter Try.func14, Try.ntmps14
    go_wp2
    go_ret
    exact ⟨_, rfl, by unfold Plain; simp; omega, Below.refl _ _⟩
  have hsz : 0 < s.size := by omega
  have hb0 := bt_bd s 0
  have e0 := bt_get s 0 hsz
  obtain ⟨c0, hc0⟩ : ∃ c0, c0 = bt s 0 := ⟨_, rfl⟩
  rw [← hc0] at hb0 e0
  have HC : Hid (c0 = bt s 0) := hc0
  clear hc0
  obtain ⟨b1, b2⟩ := hb0
  by_cases h2 : cls c0 = 2
  · have h2' : (cls c0 != 2) = false := by simp [h2]
    have H2 : Hid (cls c0 = 2) := h2
    clear h2
    go_enter Try.func14, Try.ntmps14
    go_wp2_with (go_at_call 22; refine (class_any _ (by omega) (by omega) _).mono ?_; rintro e w' ⟨rfl, rfl⟩)
    go_loop [4] (fun i => ∃ k : Nat, 1 ≤ k ∧ k ≤ s.size ∧ i = .int .i64 k ∧ InTo s 1 k) (fun i => s.size - (intOf i).toNat)
    case atStart => exact ⟨1, by omega, by omega, rfl, fun j _ _ => by omega⟩
    case round =>
      obtain ⟨k, hk1, hk, rfl, hin⟩ := hrel
      by_cases hlt : k < s.size
      · have ek := bt_get s k hlt
        obtain ⟨d1, d2⟩ := bt_bd s k
        by_cases hz : cls (bt s k) = 0
        · have hz' : (cls (bt s k) == 0) = true := by simp [hz]
          have X : ¬ Plain s := fun h => h.2.2.2 k hk1 hlt hz
          clear hz
          go_wp2_with (go_at_call 22; refine (class_any _ (by omega) (by omega) _).mono ?_; rintro e w' ⟨rfl, rfl⟩)
          go_ret
          exact ⟨_, rfl, by simp [X], Below.refl _ _⟩
        · have hz' : (cls (bt s k) == 0) = false := by simp [hz]
          have X := hin.succ hz
          clear hz
          go_wp2_with (go_at_call 22; refine (class_any _ (by omega) (by omega) _).mono ?_; rintro e w' ⟨rfl, rfl⟩)
          go_round
          case rel => exact ⟨k + 1, by omega, by omega, by go_num, X⟩
          case measure => simp [intOf]; omega
      · have X : Plain s := ⟨by omega, by omega, by rw [← HC.out]; exact H2.out, fun j h1 h2 => hin j h1 (by omega)⟩
        go_wp2
        go_ret
        exact ⟨_, rfl, by simp [X], Below.refl _ _⟩
  · have h2' : (cls c0 != 2) = true := by simp [h2]
    have X : ¬ Plain s := fun h => h2 (by rw [HC.out]; exact h.2.2.1)
    clear h2
    go_enter Try.func14, Try.ntmps14
    go_wp2_with (go_at_call 22; refine (class_any _ (by omega) (by omega) _).mono ?_; rintro e w' ⟨rfl, rfl⟩)
    go_ret
    exact ⟨_, rfl, by simp [X], Below.refl _ _⟩
end Go.Proofs.Qxb6604024a
