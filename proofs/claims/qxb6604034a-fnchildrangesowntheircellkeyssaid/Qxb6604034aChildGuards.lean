import Derived.Test.Qxb6604034aChildBase
namespace Go.Proofs.Qxb6604034a
open Go.RowKit

/-- the address a leads to m keys K, all in blocks lo up to hi -/
def Ks (w : World) (lo hi : Nat) (own : Bool) (K : Nat → KD) (m : Nat) (a : Option Addr) : Prop :=
  (a = none → m = 0) ∧
  (0 < m → ∃ b off, a = some ⟨b, off, none⟩ ∧ lo ≤ b ∧ b < hi ∧ ∃ (A : Nat → Option Addr) (C : Nat → Nat), ∀ j, j < m → w.cell? ⟨b, off + j, none⟩ = some (.slice (A j) (K j).n (C j)) ∧ Bs w lo hi own (K j) (A j))

def BoolPost (e : Ending) : Prop := ∃ b, e = .returned (.bool b)

set_option maxHeartbeats 400000 in
theorem zzBytes_any (a0 a1 a : Option Addr) (n0 c0 n1 c1 m c : Nat) (p ce q : Int) (K : Nat → KD) (lo hi : Nat) (own : Bool) (w : World) (hk : Ks w lo hi own K m a) :
    Calls Try.prog 5 #[.slice a0 n0 c0, .slice a1 n1 c1, .int .u64 p, .int .i64 ce, .int .u64 q, .slice a m c] w fun e w' => BoolPost e ∧ w = w' := by
  by_cases h0 : 1048576 < n0
  · go_enter Try.func5, Try.ntmps5
    go_wp2
    go_ret
    exact ⟨⟨_, rfl⟩, rfl⟩
  by_cases h1 : 1048576 < n1
  · go_enter Try.func5, Try.ntmps5
    go_wp2
    go_ret
    exact ⟨⟨_, rfl⟩, rfl⟩
  by_cases h2 : 1048576 < n0 + n1
  · go_enter Try.func5, Try.ntmps5
    go_wp2
    go_ret
    exact ⟨⟨_, rfl⟩, rfl⟩
  by_cases h3 : 1048576 < m
  · go_enter Try.func5, Try.ntmps5
    go_wp2
    go_ret
    exact ⟨⟨_, rfl⟩, rfl⟩
  by_cases h4 : 1048576 < n0 + n1 + m
  · go_enter Try.func5, Try.ntmps5
    go_wp2
    go_ret
    exact ⟨⟨_, rfl⟩, rfl⟩
  go_enter Try.func5, Try.ntmps5
  go_wp2
  go_loop [13, 14] (fun t i => ∃ (k : Nat) (s : Int), k ≤ m ∧ 0 ≤ s ∧ s ≤ 1048576 ∧ i = .int .i64 k ∧ t = .int .i64 s) (fun _ i => m - (intOf i).toNat)
  case atStart => exact ⟨0, _, by omega, by omega, by omega, rfl, rfl⟩
  case round =>
    obtain ⟨k, s, hk1, hs0, hs1, rfl, rfl⟩ := hrel
    by_cases hlt : k < m
    · obtain ⟨b, off, rfl, _, _, A, C, hc⟩ := hk.2 (by omega)
      have hck := (hc k hlt).1
      clear hc hk
      generalize (K k).n = y at *
      by_cases g1 : 1048576 < y
      · go_wp2
        go_ret
        exact ⟨⟨_, rfl⟩, rfl⟩
      by_cases g2 : 1048576 < s + y
      · go_wp2
        go_ret
        exact ⟨⟨_, rfl⟩, rfl⟩
      go_wp2
      go_round
      case rel => exact ⟨k + 1, s + y, by omega, by omega, by omega, by go_num, rfl⟩
      case measure => simp [intOf]; omega
    · clear hk
      go_wp2
      go_ret
      exact ⟨⟨_, rfl⟩, rfl⟩

/-- what the guard lets by -/
def Small (n0 n1 m : Nat) (K : Nat → KD) : Prop := n0 ≤ 1048576 ∧ n1 ≤ 1048576 ∧ m ≤ 65536 ∧ ∀ j, j < m → (K j).n ≤ 1048576
def GuardPost (n0 n1 m : Nat) (K : Nat → KD) (e : Ending) : Prop := ∃ b, e = .returned (.bool b) ∧ (b = true → Small n0 n1 m K)
def SmTo (K : Nat → KD) (k : Nat) : Prop := ∀ j, j < k → (K j).n ≤ 1048576
theorem SmTo.zero (K : Nat → KD) : SmTo K 0 := fun j h => absurd h (Nat.not_lt_zero j)
theorem SmTo.succ {K : Nat → KD} {k : Nat} (h : SmTo K k) (hk : (K k).n ≤ 1048576) : SmTo K (k + 1) := by
  intro j hj
  by_cases e : j = k
  · subst e; exact hk
  · exact h j (by omega)

set_option maxHeartbeats 400000 in
theorem guard_any (a0 a1 a : Option Addr) (n0 c0 n1 c1 m c : Nat) (K : Nat → KD) (lo hi : Nat) (own : Bool) (w : World) (hk : Ks w lo hi own K m a) :
    Calls Try.prog 6 #[.slice a0 n0 c0, .slice a1 n1 c1, .slice a m c] w fun e w' => GuardPost n0 n1 m K e ∧ w = w' := by
  by_cases h0 : 1048576 < n0
  · go_enter Try.func6, Try.ntmps6
    go_wp2
    go_ret
    exact ⟨⟨_, rfl, fun h => by cases h⟩, rfl⟩
  by_cases h1 : 1048576 < n1
  · go_enter Try.func6, Try.ntmps6
    go_wp2
    go_ret
    exact ⟨⟨_, rfl, fun h => by cases h⟩, rfl⟩
  by_cases h3 : 65536 < m
  · go_enter Try.func6, Try.ntmps6
    go_wp2
    go_ret
    exact ⟨⟨_, rfl, fun h => by cases h⟩, rfl⟩
  by_cases h4 : 1048576 < n0 + n1 + 24 * m
  · go_enter Try.func6, Try.ntmps6
    go_wp2
    go_ret
    exact ⟨⟨_, rfl, fun h => by cases h⟩, rfl⟩
  go_enter Try.func6, Try.ntmps6
  go_wp2
  go_loop [7, 8] (fun t i => ∃ (k : Nat) (s : Int), k ≤ m ∧ 0 ≤ s ∧ s ≤ 1048576 ∧ SmTo K k ∧ i = .int .i64 k ∧ t = .int .i64 s) (fun _ i => m - (intOf i).toNat)
  case atStart => exact ⟨0, _, by omega, by omega, by omega, SmTo.zero K, rfl, rfl⟩
  case round =>
    obtain ⟨k, s, hk1, hs0, hs1, hsm, rfl, rfl⟩ := hrel
    by_cases hlt : k < m
    · obtain ⟨b, off, rfl, _, _, A, C, hc⟩ := hk.2 (by omega)
      have hck := (hc k hlt).1
      clear hc hk
      have X := fun h => hsm.succ h
      clear hsm
      generalize (K k).n = y at *
      by_cases g1 : 1048576 < y
      · go_wp2
        go_ret
        exact ⟨⟨_, rfl, fun h => by cases h⟩, rfl⟩
      by_cases g2 : 1048576 < s + y
      · go_wp2
        go_ret
        exact ⟨⟨_, rfl, fun h => by cases h⟩, rfl⟩
      have X' := X (by omega)
      clear X
      go_wp2
      go_round
      case rel => exact ⟨k + 1, s + y, by omega, by omega, by omega, X', by go_num, rfl⟩
      case measure => simp [intOf]; omega
    · have X : Small n0 n1 m K := ⟨by omega, by omega, by omega, fun j hj => hsm j (by omega)⟩
      clear hk hsm
      go_wp2
      go_ret
      exact ⟨⟨_, rfl, fun _ => X⟩, rfl⟩
end Go.Proofs.Qxb6604034a
