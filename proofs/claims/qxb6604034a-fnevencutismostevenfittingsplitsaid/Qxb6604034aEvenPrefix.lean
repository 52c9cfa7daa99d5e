import Derived.Test.Qxb6604034aEvenRows
namespace Go.Proofs.Qxb6604034a
open Go.RowKit

def P1 (f : Nat → Int) (k : Nat) : Nat → Int := fun j => if j ≤ k then pre f j else 0
def S1 (f : Nat → Int) (n m : Nat) : Nat → Int := fun j => if m ≤ j then suf f n j else 0
theorem P1_next (f : Nat → Int) (k : Nat) (j : Nat) : P1 f (k + 1) j = if j = k + 1 then pre f k + f k else P1 f k j := by
  unfold P1
  by_cases e : j = k + 1
  · subst e; simp [pre_succ]
  · by_cases e' : j ≤ k
    · rw [if_pos (by omega), if_neg e, if_pos e']
    · rw [if_neg (by omega), if_neg e, if_neg e']
theorem S1_next (f : Nat → Int) (n q : Nat) (j : Nat) : S1 f n q j = if j = q then suf f n (q + 1) + f q else S1 f n (q + 1) j := by
  unfold S1
  by_cases e : j = q
  · subst e; simp [← suf_pred]
  · by_cases e' : q + 1 ≤ j
    · rw [if_pos (by omega), if_neg e, if_pos e']
    · rw [if_neg (by omega), if_neg e, if_neg e']
theorem Own.congr {w : World} {B g n : Nat} {h h' : Nat → Int} (o : Own w B g n h) (e : ∀ j, j < n → h' j = h j) : Own w B g n h' := by
  unfold Own at *; rw [rowL_congr n h' h e]; exact o
theorem Own.other {w : World} {B g g' n n' : Nat} {h h' : Nat → Int} (o : Own w B g n h) (o' : Own w B g' n' h') (hne : g' ≠ g) (k : Nat) (v : Value) : Own (w.setCell ⟨g, k, none⟩ v) B g' n' h' :=
  World.ownsRow.kept o' (World.ownsRow.stored o k v).2 (.inr (by simp [Value.ownBlock]; exact hne))
theorem Own.lt {w : World} {B g n : Nat} {h : Nat → Int} (o : Own w B g n h) (hn : 0 < n) : g < w.heap.size := by
  have := World.block_lt_of_cell? w _ (o.cell hn)
  exact this

def PrePost (w : World) (n : Nat) (f : Nat → Int) (e : Ending) (w' : World) : Prop :=
  ∃ g1 g2, e = .returned (.tuple #[.slice (some ⟨g1, 0, none⟩) (n + 1) (n + 1), .slice (some ⟨g2, 0, none⟩) (n + 1) (n + 1)]) ∧
    Reads w' (some ⟨g1, 0, none⟩) (n + 1) (pre f) ∧ Reads w' (some ⟨g2, 0, none⟩) (n + 1) (suf f n) ∧ Below w.heap.size w w'

set_option maxHeartbeats 1000000 in
theorem prefixes_any (a : Option Addr) (n c : Nat) (f : Nat → Int) (hn : n ≤ 131072) (w : World) (hr : Reads w a n f) (hf : Fits f n) :
    Calls Try.prog 15 #[.slice a n c] w fun e w' => PrePost w n f e w' := by
  obtain ⟨i0, hi, hz0, hz1, hz2⟩ := info_parts Try.info3
  go_enter Try.func15, Try.ntmps15
  go_wp2_with (first | (at_make; refine wpList_make_full _ rfl (.tmp 12) (.tmp 12) 30 rfl w.heap.size 3 i0 (.int .i64 0) 1 Try.underlying30 hi hz0 hz1 _ _ _ _ (n + 1) rfl rfl (by omega) (by omega) (by rw [hz2]; omega) (by unfold maxLen; omega) (Nat.le_refl _) ?_; intro w1 hown1 hgrow1) | (at_make; refine wpList_make_full _ rfl (.tmp 15) (.tmp 15) 30 rfl w.heap.size 3 i0 (.int .i64 0) 1 Try.underlying30 hi hz0 hz1 _ _ _ _ (n + 1) rfl rfl (by omega) (by omega) (by rw [hz2]; omega) (by unfold maxLen; omega) hgrow1.size ?_; intro w2 hown2 hgrow2))
  rw [rowL_made] at hown1 hown2
  have hb1 : Below w.heap.size w w1 := (Below.refl _ _).grown hgrow1 (Nat.le_refl _) (fun k h => by cases h)
  have hb2 : Below w.heap.size w w2 := hb1.grown hgrow2 hb1.size (fun k h => by cases h)
  have o1 : Own w1 w.heap.size w.heap.size (n + 1) (fun _ => 0) := hown1
  have hg : w.heap.size < w1.heap.size := o1.lt (by omega)
  have o1' : Own w2 w.heap.size w.heap.size (n + 1) (P1 f 0) := by
    have : Own w2 w.heap.size w.heap.size (n + 1) (fun _ => 0) := World.ownsRow.kept hown1 hgrow2 (.inr (by simp [Value.ownBlock]))
    exact this.congr (fun j hj => by unfold P1; split <;> simp_all [pre_zero])
  have o2 : Own w2 w.heap.size w1.heap.size (n + 1) (fun _ => 0) := hown2
  clear hown1 hown2 hgrow1 hgrow2 o1 hb1
  generalize w1.heap.size = g2 at *
  go_loopw [7] (fun i wr => ∃ k : Nat, k ≤ n ∧ i = .int .i64 k ∧ Own wr w.heap.size w.heap.size (n + 1) (P1 f k) ∧ Own wr w.heap.size g2 (n + 1) (fun _ => 0) ∧ Below w.heap.size w wr) (fun i _ => n - (intOf i).toNat)
  case atStart => exact ⟨0, by omega, rfl, o1', o2, hb2⟩
  case round =>
    clear o1' o2 hb2
    obtain ⟨k, hk, rfl, ho1, ho2, hbel⟩ := hrel
    by_cases hlt : k < n
    · obtain ⟨b, off, rfl, hc⟩ := reads_below hr hbel (by omega)
      have hck := hc k hlt
      have h1 : wr.cell? ⟨w.heap.size, k, none⟩ = some (.int .i64 (pre f k)) := by rw [ho1.cell (by omega)]; unfold P1; rw [if_pos (Nat.le_refl _)]
      have h2 := ho1.cell (j := k + 1) (by omega)
      have hfr := ho1.free (k + 1)
      have X := ho1.store (k + 1) (pre f k + f k) (P1 f (k + 1)) (fun j _ => P1_next f k j)
      have Y := ho1.other ho2 (by omega) (k + 1) (.int .i64 (pre f k + f k))
      have hB : Below w.heap.size w (wr.setCell ⟨w.heap.size, k + 1, none⟩ (.int .i64 (pre f k + f k))) := hbel.setCell (Nat.le_refl _) _
      obtain ⟨f0, f1⟩ := hf.el k hlt
      obtain ⟨p0, p1⟩ := hf.pre k hk
      have hk1 : (0 : Int) ≤ (k : Int) := by omega
      clear hc hr ho1 ho2 hbel hf
      go_wp2
      go_region
      all_goals go_wp2
      all_goals
        go_roundw
        case rel => exact ⟨k + 1, by omega, by go_num, X, Y, hB.drew⟩
        case measure => simp [intOf]; omega
    · have Z1 : Own wr w.heap.size w.heap.size (n + 1) (pre f) := ho1.congr (fun j hj => by unfold P1; rw [if_pos (by omega)])
      have Z2 : Own wr w.heap.size g2 (n + 1) (S1 f n n) := ho2.congr (fun j hj => by
        unfold S1; split
        · obtain rfl : j = n := by omega
          exact suf_end f j
        · rfl)
      have hW := hbel
      obtain ⟨wo, rfl⟩ : ∃ wo : World, wo = wr := ⟨_, rfl⟩
      clear ho1 ho2 hbel
      go_wp2
      go_loopw [8] (fun i wr => ∃ m : Nat, m ≤ n ∧ i = .int .i64 ((m : Int) - 1) ∧ Own wr w.heap.size w.heap.size (n + 1) (pre f) ∧ Own wr w.heap.size g2 (n + 1) (S1 f n m) ∧ Below w.heap.size w wr) (fun i _ => (intOf i + 1).toNat)
      case atStart => exact ⟨n, by omega, rfl, Z1, Z2, hW⟩
      case round =>
        clear Z1 Z2 hW
        obtain ⟨m, hm, rfl, ho1, ho2, hbel⟩ := hrel
        by_cases hm0 : m = 0
        · subst hm0
          have R2 : Own wr w.heap.size g2 (n + 1) (suf f n) := ho2.congr (fun j hj => by unfold S1; rw [if_pos (by omega)])
          clear ho2 hr hf
          go_wp2
          go_ret2
          exact ⟨_, _, rfl, ho1.reads, R2.reads, hbel⟩
        · obtain ⟨q, rfl⟩ : ∃ q, m = q + 1 := ⟨m - 1, by omega⟩
          have e : (((q + 1 : Nat) : Int) - 1) = (q : Int) := by omega
          rw [e]
          clear e hm0
          obtain ⟨b, off, rfl, hc⟩ := reads_below hr hbel (by omega)
          have hck := hc q (by omega)
          have h1 : wr.cell? ⟨g2, q + 1, none⟩ = some (.int .i64 (suf f n (q + 1))) := by rw [ho2.cell (by omega)]; unfold S1; rw [if_pos (Nat.le_refl _)]
          have h2 := ho2.cell (j := q) (by omega)
          have hfr := ho2.free q
          have X := ho2.store q (suf f n (q + 1) + f q) (S1 f n q) (fun j _ => S1_next f n q j)
          have Y := ho2.other ho1 (by omega) q (.int .i64 (suf f n (q + 1) + f q))
          have hB : Below w.heap.size w (wr.setCell ⟨g2, q, none⟩ (.int .i64 (suf f n (q + 1) + f q))) := hbel.setCell (by exact Nat.le_of_lt hg) _
          obtain ⟨f0, f1⟩ := hf.el q (by omega)
          obtain ⟨p0, p1⟩ := hf.suf (q + 1) hm
          clear hc hr ho1 ho2 hbel hf
          go_wp2
          go_region
          all_goals go_wp2
          all_goals
            go_roundw
            case rel => exact ⟨q, by omega, by go_num, Y, X, hB.drew⟩
            case measure => simp [intOf]; try omega
end Go.Proofs.Qxb6604034a
