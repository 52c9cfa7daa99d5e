import Derived.Test.Qxb6604034aEvenWalks
import Derived.Laws.OwnMore
import Derived.Lib.SliceRun
import Derived.RegionTactic
import Derived.ChangeAlike
import Derived.Deep.QuietTactic
import Derived.BigQuiet
namespace Go.Proofs.Qxb6604034a
open Go.RowKit

theorem Try.info3 : (Try.prog.info? 3).map (fun i => (i.zero, i.size, i.bytes)) = some (some (.int .i64 0), 1, 8) := by kernel_rfl

/-- n numbers as cells -/
def rowL (n : Nat) (h : Nat → Int) : List Value := (List.range n).map fun j => Value.int .i64 (h j)
theorem rowL_get (n : Nat) (h : Nat → Int) (j : Nat) (hj : j < n) : (rowL n h)[j]? = some (.int .i64 (h j)) := by
  unfold rowL; rw [List.getElem?_map, List.getElem?_range hj]; rfl
theorem rowL_set (n : Nat) (h h' : Nat → Int) (k : Nat) (v : Int) (hh : ∀ j, j < n → h' j = if j = k then v else h j) : (rowL n h).set k (.int .i64 v) = rowL n h' := by
  apply List.ext_getElem?
  intro j
  by_cases hj : j < n
  · rw [rowL_get n h' j hj, hh j hj, List.getElem?_set]
    by_cases e : k = j
    · subst e; simp [rowL, hj]
    · rw [if_neg e, rowL_get n h j hj, if_neg (fun x => e x.symm)]
  · rw [List.getElem?_eq_none (by simp [rowL]; omega), List.getElem?_eq_none (by simp [rowL]; omega)]
theorem rowL_made (n : Nat) : (madeCells (Value.int .i64 0).cells (n * 1)).toList = rowL n (fun _ => 0) := by
  rw [Nat.mul_one, show (Value.int .i64 0).cells = #[Value.int .i64 0] from rfl, toList_madeCells_one]
  unfold rowL
  rw [List.map_const', List.length_range]
theorem rowL_congr (n : Nat) (h h' : Nat → Int) (hh : ∀ j, j < n → h j = h' j) : rowL n h = rowL n h' := by
  unfold rowL
  exact List.map_congr_left fun j hj => by rw [hh j (by simpa using hj)]

/-- the slice at block g of n cells, made by the call, holds the numbers h -/
def Own (w : World) (B g n : Nat) (h : Nat → Int) : Prop := w.ownsRow B 3 1 (.slice (some ⟨g, 0, none⟩) n n) n (rowL n h)
theorem Own.cell {w : World} {B g n : Nat} {h : Nat → Int} (o : Own w B g n h) {j : Nat} (hj : j < n) : w.cell? ⟨g, j, none⟩ = some (.int .i64 (h j)) := by
  rw [World.ownsRow.cellAt o j (by omega), rowL_get n h j hj]
theorem Own.free {w : World} {B g n : Nat} {h : Nat → Int} (o : Own w B g n h) (j : Nat) : w.frozen? ⟨g, j, none⟩ = false := World.ownsRow.frozenAt o j
theorem Own.reads {w : World} {B g n : Nat} {h : Nat → Int} (o : Own w B g n h) : Reads w (some ⟨g, 0, none⟩) n h :=
  fun _ => ⟨g, 0, rfl, fun j hj => by rw [Nat.zero_add]; exact o.cell hj⟩
theorem Own.store {w : World} {B g n : Nat} {h : Nat → Int} (o : Own w B g n h) (k : Nat) (v : Int) (h' : Nat → Int) (hh : ∀ j, j < n → h' j = if j = k then v else h j) :
    Own (w.setCell ⟨g, k, none⟩ (.int .i64 v)) B g n h' := by
  have := (World.ownsRow.stored o k (.int .i64 v)).1
  rw [rowL_set n h h' k v hh] at this
  exact this

theorem reads_below {w w' : World} {a : Option Addr} {n : Nat} {f : Nat → Int} (hr : Reads w a n f) (hb : Below w.heap.size w w') : Reads w' a n f := by
  intro hn
  obtain ⟨b, off, rfl, hc⟩ := hr hn
  refine ⟨b, off, rfl, fun j hj => ?_⟩
  have h := hc j hj
  rw [hb.cell (p := ⟨b, off + j, none⟩) (World.block_lt_of_cell? w _ h)]
  exact h

/-- what the loop has copied -/
def upTo (f : Nat → Int) (k : Nat) : Nat → Int := fun j => if j < k then f j else 0

def ClonePost (w : World) (n : Nat) (f : Nat → Int) (e : Ending) (w' : World) : Prop := ∃ a' c', e = .returned (.slice a' n c') ∧ Reads w' a' n f ∧ Below w.heap.size w w'

set_option maxHeartbeats 400000 in
theorem clone_any (a : Option Addr) (n c : Nat) (f : Nat → Int) (hn : n ≤ 131072) (hnil : a = none → n = 0) (w : World) (hr : Reads w a n f) :
    Calls Try.prog 13 #[.slice a n c] w fun e w' => ClonePost w n f e w' := by
  have hq := fun (w : World) (a : Option Addr) (n c n' c' : Nat) => Lib.run_eql_slice_nil (P := Try.prog) w 30 3 a n c n' c' Try.underlying30
  cases a with
  | none =>
    obtain rfl := hnil rfl
    go_enter Try.func13, Try.ntmps13
    go_wp2
    go_ret
    exact ⟨none, 0, rfl, fun h => by omega, Below.refl _ _⟩
  | some x =>
    clear hnil
    obtain ⟨i0, hi, hz0, hz1, hz2⟩ := info_parts Try.info3
    go_enter Try.func13, Try.ntmps13
    go_wp2_with (at_make; refine wpList_make_full _ rfl (.tmp 8) (.tmp 8) 30 rfl w.heap.size 3 i0 (.int .i64 0) 1 Try.underlying30 hi hz0 hz1 _ _ _ _ n rfl rfl rfl rfl (by rw [hz2]; omega) (by unfold maxLen; omega) (Nat.le_refl _) ?_; intro w1 hown1 hgrow1)
    rw [rowL_made] at hown1
    have hb1 : Below w.heap.size w w1 := (Below.refl _ _).grown hgrow1 (Nat.le_refl _) (fun k h => by cases h)
    have ho1 : Own w1 w.heap.size w.heap.size n (upTo f 0) := hown1
    clear hown1 hgrow1
    go_loopw [4] (fun i wr => ∃ k : Nat, k ≤ n ∧ i = .int .i64 k ∧ Own wr w.heap.size w.heap.size n (upTo f k) ∧ Below w.heap.size w wr) (fun i _ => n - (intOf i).toNat)
    case atStart => exact ⟨0, by omega, rfl, ho1, hb1⟩
    case round =>
      clear ho1 hb1
      obtain ⟨k, hk, rfl, hown, hbel⟩ := hrel
      by_cases hlt : k < n
      · obtain ⟨b, off, hx, hc⟩ := reads_below hr hbel (by omega)
        obtain rfl : x = ⟨b, off, none⟩ := by simpa using hx
        have hck := hc k hlt
        have hok := hown.cell hlt
        have hfr := hown.free k
        have X := hown.store k (f k) (upTo f (k + 1)) (fun j hj => by unfold upTo; by_cases e : j = k <;> by_cases e' : j < k <;> simp [e, e'] <;> omega)
        have hB : Below w.heap.size w (wr.setCell ⟨w.heap.size, k, none⟩ (.int .i64 (f k))) := hbel.setCell (Nat.le_refl _) _
        clear hx hc hr hown hbel
        go_wp2
        go_roundw
        case rel => exact ⟨k + 1, by omega, by go_num, X, hB⟩
        case measure => simp [intOf]; omega
      · have X : Own wr w.heap.size w.heap.size n f := by
          unfold Own at hown ⊢
          rw [rowL_congr n f (upTo f k) (fun j hj => by unfold upTo; rw [if_pos (by omega)])]
          exact hown
        clear hown hr
        go_wp2
        go_ret
        exact ⟨_, n, rfl, X.reads, hbel⟩
end Go.Proofs.Qxb6604034a
