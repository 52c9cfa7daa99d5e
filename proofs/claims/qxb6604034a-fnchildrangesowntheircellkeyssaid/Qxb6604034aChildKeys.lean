import Derived.Test.Qxb6604034aChildBytes
namespace Go.Proofs.Qxb6604034a
open Go.RowKit

/-- keys that the law itself has made: the array's block lies ahead of all bytes' blocks -/
def KO (w : World) (lo hi : Nat) (K : Nat → KD) (m : Nat) (a : Option Addr) : Prop :=
  (a = none → m = 0) ∧
  (0 < m → ∃ g, a = some ⟨g, 0, none⟩ ∧ lo ≤ g ∧ g < hi ∧ ∃ (A : Nat → Option Addr) (C : Nat → Nat), ∀ j, j < m → w.cell? ⟨g, j, none⟩ = some (.slice (A j) (K j).n (C j)) ∧ Bs w (g + 1) hi true (K j) (A j))
theorem KO.ks {w : World} {lo hi : Nat} {K : Nat → KD} {m : Nat} {a : Option Addr} (h : KO w lo hi K m a) : Ks w lo hi true K m a := by
  refine ⟨h.1, fun hm => ?_⟩
  obtain ⟨g, e, h1, h2, A, C, hc⟩ := h.2 hm
  refine ⟨g, 0, e, h1, h2, A, C, fun j hj => ⟨by rw [Nat.zero_add]; exact (hc j hj).1, (hc j hj).2.mono (by omega) (Nat.le_refl _)⟩⟩
theorem Ks.stays {w w' : World} {lo hi : Nat} {own : Bool} {K : Nat → KD} {m : Nat} {a : Option Addr} (h : Ks w lo hi own K m a) (hk : ∀ i, lo ≤ i → i < hi → w'.heap[i]? = w.heap[i]?) : Ks w' lo hi own K m a := by
  refine ⟨h.1, fun hm => ?_⟩
  obtain ⟨b, off, e, h1, h2, A, C, hc⟩ := h.2 hm
  exact ⟨b, off, e, h1, h2, A, C, fun j hj => ⟨by rw [World.cell?_of_block (w := w) (hk b h1 h2)]; exact (hc j hj).1, (hc j hj).2.stays hk⟩⟩
theorem KO.stays {w w' : World} {lo hi : Nat} {K : Nat → KD} {m : Nat} {a : Option Addr} (h : KO w lo hi K m a) (hk : ∀ i, lo ≤ i → i < hi → w'.heap[i]? = w.heap[i]?) : KO w' lo hi K m a := by
  refine ⟨h.1, fun hm => ?_⟩
  obtain ⟨g, e, h1, h2, A, C, hc⟩ := h.2 hm
  exact ⟨g, e, h1, h2, A, C, fun j hj => ⟨by rw [World.cell?_of_block (w := w) (hk g h1 h2)]; exact (hc j hj).1, (hc j hj).2.stays (fun i h3 h4 => hk i (by omega) h4)⟩⟩

def KRow (K : Nat → KD) (A : Nat → Option Addr) (C : Nat → Nat) (t : Nat) : Nat → Value := fun j => if j < t then .slice (A j) (K j).n (C j) else .slice none 0 0
def upd {α : Type} (A : Nat → α) (t : Nat) (x : α) : Nat → α := fun j => if j = t then x else A j
theorem upd_same {α : Type} (A : Nat → α) (t : Nat) (x : α) : upd A t x t = x := if_pos rfl
theorem upd_other {α : Type} (A : Nat → α) (t : Nat) (x : α) {j : Nat} (h : j ≠ t) : upd A t x j = A j := if_neg h

def KInv (w wr : World) (K : Nat → KD) (m t : Nat) (A : Nat → Option Addr) (C : Nat → Nat) : Prop :=
  wr.rowIs w.heap.size 22 m (KRow K A C t) ∧ (∀ j, j < t → Bs wr (w.heap.size + 1) wr.heap.size true (K j) (A j)) ∧ Below w.heap.size w wr

theorem KInv.step {w wr w1 : World} {K : Nat → KD} {m t : Nat} {A : Nat → Option Addr} {C : Nat → Nat} {a' : Option Addr} {c' : Nat} (h : KInv w wr K m t A C) (ht : t < m)
    (hb : Bs w1 wr.heap.size w1.heap.size true (K t) a') (hB : Below wr.heap.size wr w1) :
    KInv w (w1.setCell ⟨w.heap.size, t, none⟩ (.slice a' (K t).n c')) K m (t + 1) (upd A t a') (upd C t c') := by
  obtain ⟨h1, h2, h3⟩ := h
  have hlt := h1.lt
  have r1 : w1.rowIs w.heap.size 22 m (KRow K A C t) := h1.of_block (hB.block _ hlt)
  have hsz : (w1.setCell ⟨w.heap.size, t, none⟩ (.slice a' (K t).n c')).heap.size = w1.heap.size := by simp [World.setCell]
  have keep : ∀ i, w.heap.size + 1 ≤ i → (w1.setCell ⟨w.heap.size, t, none⟩ (.slice a' (K t).n c')).heap[i]? = w1.heap[i]? := fun i hi => Below.heap_setCell _ _ _ _ (by show i ≠ w.heap.size; omega)
  refine ⟨(r1.set t _).congr fun j hj => ?_, fun j hj => ?_, (h3.trans (hB.mono h3.size)).setCell (Nat.le_refl _) _⟩
  · unfold KRow
    by_cases e : j = t
    · subst e; rw [if_pos rfl, if_pos (by omega), upd_same, upd_same]
    · rw [if_neg e, upd_other _ _ _ e, upd_other _ _ _ e]
      by_cases e' : j < t
      · rw [if_pos e', if_pos (by omega)]
      · rw [if_neg e', if_neg (by omega)]
  · rw [hsz]
    by_cases e : j = t
    · subst e
      rw [upd_same]
      exact (hb.mono (by omega) (Nat.le_refl _)).stays (fun i hi _ => keep i hi)
    · rw [upd_other _ _ _ e]
      exact (((h2 j (by omega)).stays (fun i _ hi => hB.block i hi)).stays (fun i hi _ => keep i hi)).mono (Nat.le_refl _) hB.size
theorem KInv.done {w wr : World} {K : Nat → KD} {m : Nat} {A : Nat → Option Addr} {C : Nat → Nat} (h : KInv w wr K m m A C) : KO wr w.heap.size wr.heap.size K m (some ⟨w.heap.size, 0, none⟩) := by
  obtain ⟨h1, h2, h3⟩ := h
  refine ⟨(fun h => by cases h), fun _ => ⟨_, rfl, Nat.le_refl _, h1.lt, A, C, fun j hj => ⟨?_, h2 j hj⟩⟩⟩
  rw [h1.cell hj]
  unfold KRow
  rw [if_pos hj]

def KPost (w : World) (K : Nat → KD) (m : Nat) (e : Ending) (w' : World) : Prop := ∃ a' c', e = .returned (.slice a' m c') ∧ KO w' w.heap.size w'.heap.size K m a' ∧ Below w.heap.size w w'

set_option maxHeartbeats 400000 in
theorem cloneKeys_any (a : Option Addr) (c lo hi m : Nat) (own : Bool) (K : Nat → KD) (hm : m ≤ 65536) (hn : ∀ j, j < m → (K j).n ≤ 1048576) (w : World) (hk : Ks w lo hi own K m a) (hhi : hi ≤ w.heap.size) :
    Calls Try.prog 8 #[.slice a m c] w fun e w' => KPost w K m e w' := by
  have hq := fun (w : World) (a : Option Addr) (n c n' c' : Nat) => Lib.run_eql_slice_nil (P := Try.prog) w 24 22 a n c n' c' Try.underlying24
  have hmk := run_make_row' (P := Try.prog) 24 22 (.slice none 0 0) 24 Try.underlying24 Try.info22 rfl .i64 .i64 m (by omega) (by omega)
  cases a with
  | none =>
    obtain rfl : m = 0 := hk.1 rfl
    clear hmk
    go_enter Try.func8, Try.ntmps8
    go_wp2
    go_ret
    exact ⟨none, 0, rfl, ⟨fun _ => rfl, fun h => by omega⟩, Below.refl _ _⟩
  | some x =>
    go_enter Try.func8, Try.ntmps8
    go_wp2
    have o1 : KInv w (w.alloc (.cells (madeCells #[Value.slice none 0 0] m) 22)) K m 0 (fun _ => none) (fun _ => 0) :=
      ⟨(World.rowIs_made w _ _ _).congr (fun j _ => by unfold KRow; rw [if_neg (by omega)]), fun j h => by omega, (Below.refl _ _).alloc (Nat.le_refl _) _⟩
    clear hmk hq
    go_loopw [4] (fun i wr => ∃ (t : Nat) (A : Nat → Option Addr) (C : Nat → Nat), t ≤ m ∧ i = .int .i64 t ∧ KInv w wr K m t A C) (fun i _ => m - (intOf i).toNat)
    case atStart => exact ⟨0, _, _, by omega, rfl, o1⟩
    case round =>
      clear o1
      obtain ⟨t, A, C, ht, rfl, hinv⟩ := hrel
      by_cases hlt : t < m
      · obtain ⟨b, off, hx, _, hbhi, A0, C0, hc⟩ := hk.2 (by omega)
        obtain rfl : x = ⟨b, off, none⟩ := by simpa using hx
        obtain ⟨hc1, hc2⟩ := hc t hlt
        have hbel := hinv.2.2
        have hck : wr.cell? ⟨b, off + t, none⟩ = some (.slice (A0 t) (K t).n (C0 t)) := (hbel.cell (by show b < _; omega)).trans hc1
        have hbs : Bs wr lo hi own (K t) (A0 t) := hc2.stays (fun i _ h => hbel.block i (by omega))
        have hnt := hn t hlt
        have hhr : hi ≤ wr.heap.size := Nat.le_trans hhi hbel.size
        have hgl := hinv.1.lt
        clear hc hc1 hc2 hk hn hx hbel
        go_wp2_with fail
        refine (cloneBytes_any _ _ lo hi own (K t) hnt _ hbs hhr).mono ?_
        rintro e w1 ⟨a', c', rfl, hb', hB⟩
        have r1 := hinv.1.of_block (hB.block _ hgl)
        have hok := r1.cell hlt
        have hfr := r1.frozen t
        have X := hinv.step hlt hb' hB (c' := c')
        clear hinv hb' hB r1 hbs hhr
        go_wp2
        go_roundw
        case rel => exact ⟨t + 1, _, _, by omega, by go_num, X⟩
        case measure => simp [intOf]; omega
      · obtain rfl : t = m := by omega
        have X := hinv.done
        have hB := hinv.2.2
        clear hinv hk hn
        go_wp2
        go_ret
        exact ⟨_, _, rfl, X, hB⟩
end Go.Proofs.Qxb6604034a
