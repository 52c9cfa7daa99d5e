import Derived.Test.Qxb6602652aRows
import Derived.WalkKit
import Derived.WalkSpells
import Derived.WalkSmall
import Derived.WalkLawsBesides
import Derived.Deep.QuietTactic
import Derived.BigQuiet
import Derived.Lib.Strings
import Derived.Lib.IndexBytes
namespace Go.Proofs.Qxb6602652a
open Go.RowKit

def BoolPost (e : Ending) : Prop := ∃ b, e = .returned (.bool b)

set_option maxHeartbeats 400000 in
theorem zzBytes_any (l s : ByteArray) (w : World) (hl : l.size ≤ maxLen) (hs : s.size ≤ maxLen) :
    Calls Try.prog 7 #[.string l, .string s] w fun e w' => BoolPost e ∧ w = w' := by
  unfold maxLen at hl hs
  by_cases h0 : 1048576 < l.size
  · go_enter Try.func7, Try.ntmps7
    go_wp2
    go_ret
    exact ⟨⟨_, rfl⟩, rfl⟩
  by_cases h1 : 1048576 < s.size
  · go_enter Try.func7, Try.ntmps7
    go_wp2
    go_ret
    exact ⟨⟨_, rfl⟩, rfl⟩
  by_cases h2 : 1048576 < l.size + s.size
  · go_enter Try.func7, Try.ntmps7
    go_wp2
    go_ret
    exact ⟨⟨_, rfl⟩, rfl⟩
  go_enter Try.func7, Try.ntmps7
  go_wp2
  go_ret
  exact ⟨⟨_, rfl⟩, rfl⟩

def TruePost (w : World) (e : Ending) (w' : World) : Prop := e = .returned (.bool true) ∧ ∃ n, w' = w.drewN n

set_option maxHeartbeats 400000 in
theorem same_self (a : ByteArray) (ha : a.size ≤ 4194304) (w : World) : Calls Try.prog 10 #[.string a, .string a] w fun e w' => TruePost w e w' := by
  go_enter Try.func10, Try.ntmps10
  go_wp2
  go_loopw [5] (fun i wr => ∃ t q : Nat, t ≤ a.size ∧ i = .int .i64 t ∧ wr = w.drewN q) (fun i _ => a.size - (intOf i).toNat)
  case atStart => exact ⟨0, 0, by omega, rfl, rfl⟩
  case round =>
    obtain ⟨t, q, ht, rfl, rfl⟩ := hrel
    by_cases hlt : t < a.size
    · go_wp2
      go_quiet (fail)
      go_wp2
      go_roundw
      case rel => exact ⟨t + 1, _, by omega, by go_num, rfl⟩
      case measure => simp [intOf]; omega
    · go_wp2
      go_ret
      exact ⟨rfl, q, rfl⟩
theorem same_as (a b : ByteArray) (h : a = b) (hb : b.size ≤ 4194304) (w : World) : Calls Try.prog 10 #[.string a, .string b] w fun e w' => TruePost w e w' := by
  subst h; exact same_self a hb w

def limB : ByteArray := { data := #[108, 105, 109, 105, 116, 32] }
def forB : ByteArray := { data := #[32, 102, 111, 114, 32] }
theorem isEmpty_of (s : ByteArray) (h : s.size = 0) : s.toList.isEmpty = true := by
  rw [Lib.toList_data]; obtain ⟨⟨l⟩⟩ := s; simp [ByteArray.size] at h; simp [h]
theorem isEmpty_not (s : ByteArray) (h : s.size ≠ 0) : s.toList.isEmpty = false := by
  rw [Lib.toList_data]; obtain ⟨⟨l⟩⟩ := s; simp [ByteArray.size] at h; simp [h]
theorem bt_append (a b : ByteArray) : (a ++ b).data.toList = a.data.toList ++ b.data.toList := by
  simp [ByteArray.data_append]

/-- the refusal's name, as bytes -/
def nameL (l s : ByteArray) : List UInt8 := limB.data.toList ++ (l.data.toList ++ (if s.size = 0 then [] else forB.data.toList ++ s.data.toList))
def StrPost (w : World) (l s : ByteArray) (e : Ending) (w' : World) : Prop := ∃ x, e = .returned (.string x) ∧ x.data.toList = nameL l s ∧ Below w.heap.size w w'

set_option maxHeartbeats 400000 in
theorem string_any (l s : ByteArray) (h : l.size + s.size ≤ 1048576) (w : World) : Calls Try.prog 12 #[.agg #[.string l, .string s]] w fun e w' => StrPost w l s e w' := by
  by_cases h0 : s.size = 0
  · have he := isEmpty_of s h0
    go_enter Try.func12, Try.ntmps12
    go_wp2
    go_ret
    refine ⟨_, rfl, ?_, (Below.refl _ _).alloc (Nat.le_refl _) _⟩
    rw [bt_append]; unfold nameL limB; rw [if_pos h0, List.append_nil]
  · have he := isEmpty_not s h0
    go_enter Try.func12, Try.ntmps12
    go_wp2
    go_ret
    refine ⟨_, rfl, ?_, (Below.refl _ _).alloc (Nat.le_refl _) _⟩
    rw [bt_append, bt_append, bt_append]; unfold nameL limB forB; rw [if_neg h0, List.append_assoc, List.append_assoc]

theorem zzString_any (l s : ByteArray) (h : l.size + s.size ≤ 1048576) (w : World) : Calls Try.prog 8 #[.string l, .string s] w fun e w' => StrPost w l s e w' := by
  go_enter Try.func8, Try.ntmps8
  go_wp2_with (go_at_call 12; refine (string_any _ _ h _).mono ?_; rintro e w' ⟨x, rfl, hx, hb⟩)
  go_ret
  exact ⟨x, rfl, hx, hb⟩
end Go.Proofs.Qxb6602652a
