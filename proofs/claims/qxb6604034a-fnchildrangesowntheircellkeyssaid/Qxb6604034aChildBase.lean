import Derived.Test.Qxb6604034aRows
import Derived.WalkKit
import Derived.WalkSpells
import Derived.WalkSmall
import Derived.WalkLawsBesides
import Derived.Laws.OwnMore
import Derived.Lib.SliceRun
import Derived.Deep.OwnRows
import Derived.Deep.QuietTactic
import Derived.BigQuiet
import Derived.RegionTactic
import Derived.ChangeAlike
namespace Go.Proofs.Qxb6604034a
open Go.RowKit

/-- what a key is: nil or not, its length, its bytes -/
structure KD where
  nil : Bool
  n : Nat
  f : Nat → Int

/-- the address a leads, in blocks lo up to hi, to the bytes of k; 'own': they may be written -/
def Bs (w : World) (lo hi : Nat) (own : Bool) (k : KD) (a : Option Addr) : Prop :=
  a.isNone = k.nil ∧ (k.nil = true → k.n = 0) ∧
  (0 < k.n → ∃ b off, a = some ⟨b, off, none⟩ ∧ lo ≤ b ∧ b < hi ∧ (∀ j, j < k.n → w.cell? ⟨b, off + j, none⟩ = some (.int .u8 (k.f j))) ∧ (own = true → ∀ j, j < k.n → w.frozen? ⟨b, off + j, none⟩ = false))

theorem Bs.mono {w : World} {lo hi lo' hi' : Nat} {own : Bool} {k : KD} {a : Option Addr} (h : Bs w lo hi own k a) (h1 : lo' ≤ lo) (h2 : hi ≤ hi') : Bs w lo' hi' own k a := by
  obtain ⟨g1, g2, g3⟩ := h
  refine ⟨g1, g2, fun hn => ?_⟩
  obtain ⟨b, off, e, l, u, c⟩ := g3 hn
  exact ⟨b, off, e, by omega, by omega, c⟩
theorem Bs.stays {w w' : World} {lo hi : Nat} {own : Bool} {k : KD} {a : Option Addr} (h : Bs w lo hi own k a) (hk : ∀ i, lo ≤ i → i < hi → w'.heap[i]? = w.heap[i]?) : Bs w' lo hi own k a := by
  obtain ⟨g1, g2, g3⟩ := h
  refine ⟨g1, g2, fun hn => ?_⟩
  obtain ⟨b, off, e, l, u, c, fz⟩ := g3 hn
  refine ⟨b, off, e, l, u, fun j hj => ?_, fun ho j hj => ?_⟩
  · rw [World.cell?_of_block (w := w) (hk b l u)]; exact c j hj
  · rw [World.frozen?_of_block (w := w) (hk b l u)]; exact fz ho j hj
theorem Bs.below {w w' : World} {lo : Nat} {own : Bool} {k : KD} {a : Option Addr} {B : Nat} (h : Bs w lo B own k a) (hb : Below B w w') : Bs w' lo B own k a :=
  h.stays fun i _ hi => hb.block i hi
theorem Bs.weak {w : World} {lo hi : Nat} {own : Bool} {k : KD} {a : Option Addr} (h : Bs w lo hi own k a) : Bs w lo hi false k a := by
  obtain ⟨g1, g2, g3⟩ := h
  refine ⟨g1, g2, fun hn => ?_⟩
  obtain ⟨b, off, e, l, u, c, _⟩ := g3 hn
  exact ⟨b, off, e, l, u, c, fun h => by cases h⟩

theorem Try.info5 : (Try.prog.info? 5).map (fun i => (i.zero, i.size, i.bytes)) = some (some (.int .u8 0), 1, 1) := by kernel_rfl
theorem Try.info22 : (Try.prog.info? 22).map (fun i => (i.zero, i.size, i.bytes)) = some (some (.slice none 0 0), 1, 24) := by kernel_rfl
theorem Try.info23 : (Try.prog.info? 23).map (fun i => (i.zero, i.size, i.bytes)) = some (some (.int .u64 0), 1, 8) := by kernel_rfl

/-- what the loop has copied -/
def upTo (f : Nat → Int) (k : Nat) : Nat → Value := fun j => .int .u8 (if j < k then f j else 0)

def BPost (w : World) (k : KD) (e : Ending) (w' : World) : Prop := ∃ a' c', e = .returned (.slice a' k.n c') ∧ Bs w' w.heap.size w'.heap.size true k a' ∧ Below w.heap.size w w'

theorem row_bs {w : World} {lo g : Nat} {k : KD} (hg : lo ≤ g) (hnil : k.nil = false) (h : w.rowIs g 5 k.n (fun j => .int .u8 (k.f j))) : Bs w lo w.heap.size true k (some ⟨g, 0, none⟩) :=
  ⟨by simp [hnil], (fun h => by rw [hnil] at h; cases h), (fun _ => ⟨g, 0, rfl, hg, h.lt, (fun j hj => by rw [Nat.zero_add]; exact h.cell hj), (fun _ j _ => h.frozen _)⟩)⟩

set_option maxHeartbeats 400000 in
theorem cloneBytes_any (a : Option Addr) (c lo hi : Nat) (own : Bool) (k : KD) (hn : k.n ≤ 1048576) (w : World) (hb : Bs w lo hi own k a) (hhi : hi ≤ w.heap.size) :
    Calls Try.prog 7 #[.slice a k.n c] w fun e w' => BPost w k e w' := by
  have hq := fun (w : World) (a : Option Addr) (n c n' c' : Nat) => Lib.run_eql_slice_nil (P := Try.prog) w 22 5 a n c n' c' Try.underlying22
  have hmk := run_make_row' (P := Try.prog) 22 5 (.int .u8 0) 1 Try.underlying22 Try.info5 rfl .i64 .i64 k.n (by omega) (by omega)
  cases a with
  | none =>
    have h0 : k.n = 0 := hb.2.1 (by simpa using hb.1.symm)
    have X : Bs w w.heap.size w.heap.size true k none := ⟨hb.1, hb.2.1, fun h => by omega⟩
    clear hmk
    go_enter Try.func7, Try.ntmps7
    go_wp2
    go_ret
    exact ⟨none, 0, by rw [h0]; rfl, X, Below.refl _ _⟩
  | some x =>
    have hnil : k.nil = false := by simpa using hb.1.symm
    go_enter Try.func7, Try.ntmps7
    go_wp2
    have o1 : (w.alloc (.cells (madeCells #[Value.int .u8 0] k.n) 5)).rowIs w.heap.size 5 k.n (upTo k.f 0) := World.rowIs_made w _ _ _
    have hb1 : Below w.heap.size w (w.alloc (.cells (madeCells #[Value.int .u8 0] k.n) 5)) := (Below.refl _ _).alloc (Nat.le_refl _) _
    clear hmk hq
    go_loopw [4] (fun i wr => ∃ t : Nat, t ≤ k.n ∧ i = .int .i64 t ∧ wr.rowIs w.heap.size 5 k.n (upTo k.f t) ∧ Below w.heap.size w wr) (fun i _ => k.n - (intOf i).toNat)
    case atStart => exact ⟨0, by omega, rfl, o1, hb1⟩
    case round =>
      clear o1 hb1
      obtain ⟨t, ht, rfl, hrow, hbel⟩ := hrel
      by_cases hlt : t < k.n
      · obtain ⟨b, off, hx, _, hbhi, hc, _⟩ := hb.2.2 (by omega)
        obtain rfl : x = ⟨b, off, none⟩ := by simpa using hx
        have hck : wr.cell? ⟨b, off + t, none⟩ = some (.int .u8 (k.f t)) := (hbel.cell (by show b < _; omega)).trans (hc t hlt)
        have hok := hrow.cell hlt
        have hfr := hrow.frozen t
        have X : (wr.setCell ⟨w.heap.size, t, none⟩ (.int .u8 (k.f t))).rowIs w.heap.size 5 k.n (upTo k.f (t + 1)) := (hrow.set t _).congr (fun j hj => by
          unfold upTo
          by_cases e : j = t
          · subst e; simp
          · by_cases e' : j < t
            · rw [if_neg e, if_pos e', if_pos (by omega)]
            · rw [if_neg e, if_neg e', if_neg (by omega)])
        have hB : Below w.heap.size w (wr.setCell ⟨w.heap.size, t, none⟩ (.int .u8 (k.f t))) := hbel.setCell (Nat.le_refl _) _
        clear hx hc hb hrow hbel
        go_wp2
        go_roundw
        case rel => exact ⟨t + 1, by omega, by go_num, X, hB⟩
        case measure => simp [intOf]; omega
      · have X : Bs wr w.heap.size wr.heap.size true k (some ⟨w.heap.size, 0, none⟩) := row_bs (Nat.le_refl _) hnil (hrow.congr (fun j hj => by unfold upTo; rw [if_pos (by omega)]))
        clear hrow hb
        go_wp2
        go_ret
        exact ⟨_, _, rfl, X, hbel⟩
end Go.Proofs.Qxb6604034a
