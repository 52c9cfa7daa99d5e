import Derived.Test.Qxb6602652aBreachParse
namespace Go.Proofs.Qxb6602652a
open Go.RowKit

def LawPost (w : World) (e : Ending) (w' : World) : Prop := e = .returned (.bool true) ∧ Below w.heap.size w w'

set_option maxHeartbeats 1000000 in
theorem law_any (l s : ByteArray) (w : World) (hl : l.size ≤ maxLen) (hs : s.size ≤ maxLen) :
    Calls Try.prog 4 #[.string l, .string s] w fun e w' => LawPost w e w' := by
  have hl' := hl
  have hs' := hs
  unfold maxLen at hl' hs'
  go_enter Try.func4, Try.ntmps4
  go_wp2_with fail
  refine (zzBytes_any l s _ hl hs).mono ?_; rintro e w' ⟨⟨b, rfl⟩, rfl⟩
  cases b with
  | false =>
    go_wp2
    go_ret
    exact ⟨rfl, Below.refl _ _⟩
  | true =>
  clear hl hs
  by_cases h0 : 1048576 < l.size
  · go_wp2
    go_ret
    exact ⟨rfl, Below.refl _ _⟩
  by_cases h1 : 1048576 < s.size
  · go_wp2
    go_ret
    exact ⟨rfl, Below.refl _ _⟩
  by_cases h2 : 1048576 < l.size + s.size
  · go_wp2
    go_ret
    exact ⟨rfl, Below.refl _ _⟩
  go_wp2
  go_loop [5] (fun i => ∃ k : Nat, k ≤ l.size ∧ i = .int .i64 k ∧ NoSp l k) (fun i => l.size - (intOf i).toNat)
  case atStart => exact ⟨0, by omega, rfl, NoSp.zero l⟩
  case round =>
    obtain ⟨k, hk, rfl, hno⟩ := hrel
    by_cases hlt : k < l.size
    · by_cases hsp : bt l k = 32
      · have e1 : (((l[k]'hlt).toNat : Int) == 32) = true := by rw [bt_get, hsp]; rfl
        clear hsp
        go_wp2
        go_ret
        exact ⟨rfl, Below.refl _ _⟩
      · have e1 : (((l[k]'hlt).toNat : Int) == 32) = false := by rw [bt_get]; simp; omega
        have X := hno.succ hsp
        clear hsp
        go_wp2
        go_round
        case rel => exact ⟨k + 1, by omega, by go_num, X⟩
        case measure => simp [intOf]; omega
    · obtain rfl : k = l.size := by omega
      go_wp2_with fail
      refine (zzString_any l s (by omega) _).mono ?_; rintro e w1 ⟨x, rfl, hx, hb⟩
      go_wp2_with fail
      refine (parse_any x l s (by omega) hx hno _).mono ?_; rintro e w' ⟨rfl, q1, rfl⟩
      have HXH : Hid (x.data.toList = nameL l s) := hx
      clear hx
      go_wp2_with fail
      refine (same_self l (by omega) _).mono ?_; rintro e w' ⟨rfl, q2, rfl⟩
      go_wp2_with fail
      refine (same_self s (by omega) _).mono ?_; rintro e w' ⟨rfl, q3, rfl⟩
      go_wp2
      go_ret
      exact ⟨rfl, below_drewN hb _⟩
end Go.Proofs.Qxb6602652a
