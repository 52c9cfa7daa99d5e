import Derived.Test.Qxb6604034aChildGuards
namespace Go.Proofs.Qxb6604034a
open Go.RowKit

def TruePost (w : World) (e : Ending) (w' : World) : Prop := e = .returned (.bool true) ∧ ∃ n, w' = w.drewN n

set_option maxHeartbeats 400000 in
theorem same_any (a b : Option Addr) (c c' lo hi lo' hi' : Nat) (own own' : Bool) (k : KD) (hn : k.n ≤ 1048576) (w : World) (ha : Bs w lo hi own k a) (hb : Bs w lo' hi' own' k b) :
    Calls Try.prog 10 #[.slice a k.n c, .slice b k.n c'] w fun e w' => TruePost w e w' := by
  have hq := fun (w : World) (a : Option Addr) (n c n' c' : Nat) => Lib.run_eql_slice_nil (P := Try.prog) w 22 5 a n c n' c' Try.underlying22
  have e1 : (a.isNone == b.isNone) = true := by rw [ha.1, hb.1]; simp
  have e1' : a.isNone = k.nil := ha.1
  have e2' : b.isNone = k.nil := hb.1
  clear e1
  go_enter Try.func10, Try.ntmps10
  go_wp2
  go_loopw [5] (fun i wr => ∃ t q : Nat, t ≤ k.n ∧ i = .int .i64 t ∧ wr = w.drewN q) (fun i _ => k.n - (intOf i).toNat)
  case atStart => exact ⟨0, 0, by omega, rfl, rfl⟩
  case round =>
    obtain ⟨t, q, ht, rfl, rfl⟩ := hrel
    by_cases hlt : t < k.n
    · obtain ⟨b1, off1, rfl, _, _, hc1, _⟩ := ha.2.2 (by omega)
      obtain ⟨b2, off2, rfl, _, _, hc2, _⟩ := hb.2.2 (by omega)
      have h1 := hc1 t hlt
      have h2 := hc2 t hlt
      clear hc1 hc2 ha hb
      go_wp2
      go_quiet (fail)
      go_wp2
      go_roundw
      case rel => exact ⟨t + 1, _, by omega, by go_num, rfl⟩
      case measure => simp [intOf]; omega
    · clear ha hb
      go_wp2
      go_ret
      exact ⟨rfl, q, rfl⟩

set_option maxHeartbeats 400000 in
theorem bClone_any (a : Option Addr) (c lo hi : Nat) (own : Bool) (k : KD) (hn : k.n ≤ 1048576) (w : World) (hb : Bs w lo hi own k a) (hhi : hi ≤ w.heap.size) :
    Calls Try.prog 19 #[.slice a k.n c] w fun e w' => BPost w k e w' := by
  have hq := fun (w : World) (a : Option Addr) (n c n' c' : Nat) => Lib.run_eql_slice_nil (P := Try.prog) w 22 5 a n c n' c' Try.underlying22
  cases a with
  | none =>
    have h0 : k.n = 0 := hb.2.1 (by simpa using hb.1.symm)
    have X : Bs w w.heap.size w.heap.size true k none := ⟨hb.1, hb.2.1, fun h => by omega⟩
    go_enter Try.func19, Try.ntmps19
    go_wp2
    go_ret
    exact ⟨none, 0, by rw [h0]; rfl, X, Below.refl _ _⟩
  | some x =>
    have hnil : k.nil = false := by simpa using hb.1.symm
    obtain ⟨i0, hI, hz0, hz1, hz2⟩ := info_parts Try.info5
    have hnews : ∀ j u, ((List.range k.n).map fun j => Value.int .u8 (k.f j))[j]? = some u → (w.alloc (.cells #[] 5)).cell? (x.add j) = some u := by
      intro j u hj
      have hjn : j < k.n := by have := (List.getElem?_eq_some_iff.1 hj).1; simpa using this
      rw [List.getElem?_map, List.getElem?_range hjn] at hj
      simp at hj
      subst hj
      obtain ⟨b, off, hx, _, hbh, hc, _⟩ := hb.2.2 (by omega)
      obtain rfl : x = ⟨b, off, none⟩ := by simpa using hx
      rw [show (⟨b, off, none⟩ : Addr).add j = ⟨b, off + j, none⟩ from by unfold Addr.add; split <;> simp_all, World.cell?_of_block (w := w) (Below.heap_alloc w _ b (by omega))]
      exact hc j hjn
    go_enter Try.func19, Try.ntmps19
    go_wp2_with (at_builtin; refine wpList_append_own _ rfl (.tmp 5) (.tmp 6) 22 rfl w.heap.size 5 i0 (.int .u8 0) 1 1 Try.underlying22 hI hz0 hz1 hz2 rfl (by decide) _ _ _ rfl (World.ownsRow_made w #[] 0 (Nat.le_refl _) (Nat.zero_le _) rfl) x k.n c ((List.range k.n).map fun j => Value.int .u8 (k.f j)) rfl (by simp) hnews (by simp [Value.oneCell']) (by unfold maxLen; omega) (by omega) (by simp) ?_; intro v' w1 hown hgrow hv)
    have hne : v' ≠ .slice none 0 0 := fun h => by
      have := hv.1 h
      simp [Act.eval] at this
    have hB : Below w.heap.size w w1 := ((Below.refl _ _).alloc (Nat.le_refl _) _).grown hgrow (by simp) (fun k h => by
      simp [Act.eval, Value.ownBlock] at h
      omega)
    have hsh : ∃ g cap, v' = .slice (some ⟨g, 0, none⟩) k.n cap ∧ Bs w1 w.heap.size w1.heap.size true k (some ⟨g, 0, none⟩) := by
      rcases hown.2 with ⟨h, _⟩ | ⟨g, cap, cur, h, hg, hh, _⟩
      · exact absurd h hne
      · rw [Nat.zero_add] at h hown
        rw [List.nil_append] at hown
        refine ⟨g, cap, h, by simp [hnil], (fun h => by rw [hnil] at h; cases h), fun _ => ⟨g, 0, rfl, hg, (Array.getElem?_eq_some_iff.1 hh).1, fun j hj => ?_, fun _ j hj => ?_⟩⟩
        · subst h
          rw [Nat.zero_add, hown.cellAt j (by omega), List.getElem?_map, List.getElem?_range hj]
          rfl
        · subst h
          exact hown.frozenAt _
    clear hown hgrow hv hne hnews
    obtain ⟨g, cap, hv, hbs⟩ := hsh
    rw [hv]
    go_ret
    exact ⟨_, _, rfl, hbs, hB⟩
end Go.Proofs.Qxb6604034a
