import Derived.Test.Qxb6604034aChildKeys
namespace Go.Proofs.Qxb6604034a
open Go.RowKit

/-- the parts of a slice's value -/
structure SV where
  a : Option Addr
  n : Nat
  c : Nat

def z49 : Array Value := #[.slice none 0 0, .slice none 0 0, .int .u64 0, .int .i64 0]
def z46 : Array Value := #[.slice none 0 0, .slice none 0 0, .int .u64 0, .int .u64 0, .int .i64 0]
theorem Try.info49 : (Try.prog.info? 49).map (fun i => (i.zero, i.size, i.bytes)) = some (some (.agg z49), 4, 64) := by kernel_rfl
theorem Try.info46 : (Try.prog.info? 46).map (fun i => (i.zero, i.size, i.bytes)) = some (some (.agg z46), 5, 72) := by kernel_rfl

/-- 'make' of n elements of 'size' cells -/
theorem run_make_rows {P : Program} (t e : TypeId) (z : Value) (zc : Array Value) (hzc : z.cells = zc) (size bytes : Nat) (ht : P.underlying t = some (.slice e)) (hinfo : (P.info? e).map (fun i => (i.zero, i.size, i.bytes)) = some (some z, size, bytes))
    (kl kc : IntKind) (n : Nat) (hbytes : bytes * n ≤ 281474976710656) (h63 : n ≤ 9223372036854775807) (w : World) :
    (Instr.makeSlice t (.int kl (n : Int)) (.int kc (n : Int))).run P w = .ok (.slice (some ⟨w.heap.size, 0, none⟩) n n) (w.alloc (.cells (madeCells zc (n * size)) e)) := by
  obtain ⟨i, hi, hzz⟩ := Option.map_eq_some_iff.1 hinfo
  simp only [Prod.mk.injEq] at hzz
  obtain ⟨hz, hs, hb⟩ := hzz
  have hb' : (i.bytes : Int) * (n : Int) ≤ 281474976710656 := by
    have h : ((i.bytes * n : Nat) : Int) ≤ 281474976710656 := by rw [hb]; omega
    rwa [Int.natCast_mul] at h
  have hr := run_make (P := P) w t e i z ht hi hz kl kc n n (by omega) (Int.le_refl _) hb' (by omega)
  simp only [Int.toNat_natCast, hs, hzc] at hr
  exact hr
theorem rowIs_rows (w : World) (zc : Array Value) (k : Nat) (t : TypeId) : (w.alloc (.cells (madeCells zc k) t)).rowIs w.heap.size t k (fun i => zc[i % zc.size]!) :=
  ⟨_, Deep.blk_alloc_new _ _, size_madeCells _ _, fun i hi => by simp [madeCells, hi]⟩

/-- cell x of the ranges: range i is (L i, L (i+1), q, i) -/
def RC (L : Nat → SV) (q : Int) (x : Nat) : Value :=
  if x % 4 = 0 then .slice (L (x / 4)).a (L (x / 4)).n (L (x / 4)).c else
  if x % 4 = 1 then .slice (L (x / 4 + 1)).a (L (x / 4 + 1)).n (L (x / 4 + 1)).c else
  if x % 4 = 2 then .int .u64 q else .int .i64 (x / 4 : Nat)
def RRow (L : Nat → SV) (q : Int) (t : Nat) : Nat → Value := fun x => if x < 4 * t then RC L q x else z49[x % 4]!

/-- the node's cells hold the keys -/
def Nd (w : World) (dn gc : Nat) (lo hi : Nat) (own : Bool) (K : Nat → KD) (m : Nat) : Prop :=
  dn < w.heap.size ∧ gc < w.heap.size ∧ hi ≤ w.heap.size ∧ w.cell? ⟨dn, 1, none⟩ = some (.slice (some ⟨gc, 0, none⟩) m m) ∧
  ∃ (A : Nat → Option Addr) (C : Nat → Nat), ∀ j, j < m → w.cell? ⟨gc, j * 5, none⟩ = some (.slice (A j) (K j).n (C j)) ∧ Bs w lo hi own (K j) (A j)

def RInv (w wr : World) (K : Nat → KD) (m t : Nat) (q : Int) (h : SV) (L : Nat → SV) : Prop :=
  wr.cell? ⟨w.heap.size, 1, none⟩ = some (.slice h.a h.n h.c) ∧
  wr.rowIs (w.heap.size + 1) 49 (m * 4) (RRow L q t) ∧ (∀ j, 1 ≤ j → j ≤ t → j < m → (L j).n = (K j).n ∧ Bs wr (w.heap.size + 2) wr.heap.size true (K j) (L j).a) ∧ Below w.heap.size w wr

theorem RRow_next (L : Nat → SV) (q : Int) (t : Nat) (s : SV) (j : Nat) :
    (if j = t * 4 + 3 then Value.int .i64 (t : Int) else if j = t * 4 + 2 then .int .u64 q else if j = t * 4 + 1 then .slice s.a s.n s.c else if j = t * 4 then .slice (L t).a (L t).n (L t).c else RRow L q t j) =
      RRow (upd L (t + 1) s) q (t + 1) j := by
  unfold RRow
  by_cases e3 : j = t * 4 + 3
  · subst e3
    rw [if_pos rfl, if_pos (by omega)]
    unfold RC
    rw [if_neg (by omega), if_neg (by omega), if_neg (by omega), show (t * 4 + 3) / 4 = t from by omega]
  rw [if_neg e3]
  by_cases e2 : j = t * 4 + 2
  · subst e2
    rw [if_pos rfl, if_pos (by omega)]
    unfold RC
    rw [if_neg (by omega), if_neg (by omega), if_pos (by omega)]
  rw [if_neg e2]
  by_cases e1 : j = t * 4 + 1
  · subst e1
    rw [if_pos rfl, if_pos (by omega)]
    unfold RC
    rw [if_neg (by omega), if_pos (by omega), show (t * 4 + 1) / 4 = t from by omega, upd_same]
  rw [if_neg e1]
  by_cases e0 : j = t * 4
  · subst e0
    rw [if_pos rfl, if_pos (by omega)]
    unfold RC
    rw [if_pos (by omega), show t * 4 / 4 = t from by omega, upd_other _ _ _ (by omega)]
  rw [if_neg e0]
  by_cases h : j < 4 * t
  · rw [if_pos h, if_pos (by omega)]
    unfold RC
    rw [upd_other _ _ _ (show j / 4 ≠ t + 1 by omega), upd_other _ _ _ (show j / 4 + 1 ≠ t + 1 by omega)]
  · rw [if_neg h, if_neg (by omega)]

theorem RInv.step {w wr w1 : World} {K : Nat → KD} {m t : Nat} {q : Int} {h : SV} {L : Nat → SV} (hI : RInv w wr K m t q h L) (s : SV) (hB : Below wr.heap.size wr w1)
    (hs : t + 1 < m → s.n = (K (t + 1)).n ∧ Bs w1 wr.heap.size w1.heap.size true (K (t + 1)) s.a) :
    RInv w ((((w1.setCell ⟨w.heap.size + 1, t * 4, none⟩ (.slice (L t).a (L t).n (L t).c)).setCell ⟨w.heap.size + 1, t * 4 + 1, none⟩ (.slice s.a s.n s.c)).setCell ⟨w.heap.size + 1, t * 4 + 2, none⟩ (.int .u64 q)).setCell ⟨w.heap.size + 1, t * 4 + 3, none⟩ (.int .i64 (t : Int))) K m (t + 1) q h (upd L (t + 1) s) := by
  obtain ⟨h0, h1, h2, h3⟩ := hI
  have hlt := h1.lt
  have r1 := h1.of_block (hB.block _ hlt)
  generalize hw2 : ((((w1.setCell ⟨w.heap.size + 1, t * 4, none⟩ (.slice (L t).a (L t).n (L t).c)).setCell ⟨w.heap.size + 1, t * 4 + 1, none⟩ (.slice s.a s.n s.c)).setCell ⟨w.heap.size + 1, t * 4 + 2, none⟩ (.int .u64 q)).setCell ⟨w.heap.size + 1, t * 4 + 3, none⟩ (.int .i64 (t : Int))) = w2
  have hsz : w2.heap.size = w1.heap.size := by rw [← hw2]; simp [World.setCell]
  have keep : ∀ i, i ≠ w.heap.size + 1 → w2.heap[i]? = w1.heap[i]? := fun i hi => by
    rw [← hw2, Below.heap_setCell _ _ _ _ (by exact hi), Below.heap_setCell _ _ _ _ (by exact hi), Below.heap_setCell _ _ _ _ (by exact hi), Below.heap_setCell _ _ _ _ (by exact hi)]
  have b1 := h3.trans (hB.mono h3.size)
  refine ⟨?_, ?_, fun j hj1 hj2 hj3 => ?_, ?_⟩
  · rw [World.cell?_of_block (w := w1) (keep w.heap.size (by omega)), World.cell?_of_block (w := wr) (hB.block w.heap.size (by omega))]
    exact h0
  · rw [← hw2]
    exact ((((r1.set _ _).set _ _).set _ _).set _ _).congr (fun j _ => RRow_next L q t s j)
  · rw [hsz]
    by_cases e : j = t + 1
    · subst e
      rw [upd_same]
      obtain ⟨s1, s2⟩ := hs hj3
      exact ⟨s1, (s2.mono (by omega) (Nat.le_refl _)).stays (fun i hi _ => keep i (by omega))⟩
    · rw [upd_other _ _ _ e]
      obtain ⟨s1, s2⟩ := h2 j hj1 (by omega) hj3
      exact ⟨s1, ((s2.stays (fun i _ hi => hB.block i hi)).stays (fun i hi _ => keep i (by omega))).mono (Nat.le_refl _) hB.size⟩
  · refine ⟨?_, ?_, ?_, by rw [hsz]; exact b1.size, fun i hi => (keep i (by omega)).trans (b1.block i hi)⟩
    · rw [← hw2]; exact b1.os
    · rw [← hw2]; exact b1.tape
    · rw [← hw2]; exact b1.output

/-- what childRanges leaves -/
def RPost (w : World) (K : Nat → KD) (m : Nat) (q : Int) (e : Ending) (w' : World) : Prop :=
  ∃ (r : Nat) (L : Nat → SV), e = .returned (.slice (some ⟨r, 0, none⟩) m m) ∧ w.heap.size ≤ r ∧ w'.rowIs r 49 (m * 4) (RC L q) ∧
    (∀ j, 1 ≤ j → j < m → (L j).n = (K j).n ∧ Bs w' w.heap.size w'.heap.size true (K j) (L j).a) ∧ Below w.heap.size w w'

set_option maxHeartbeats 1000000 in
theorem ranges_any (l h : SV) (p ce q : Int) (dn gc lo hi m : Nat) (own : Bool) (K : Nat → KD) (hm : m ≤ 65536) (hn : ∀ j, j < m → (K j).n ≤ 1048576) (w : World) (hnd : Nd w dn gc lo hi own K m) :
    Calls Try.prog 17 #[.agg #[.slice l.a l.n l.c, .slice h.a h.n h.c, .int .u64 p, .int .i64 ce], .int .u64 q, .pointer (some ⟨dn, 0, none⟩)] w fun e w' => RPost w K m q e w' := by
  have hmk := run_make_rows (P := Try.prog) 47 49 (.agg z49) z49 (by kernel_rfl) 4 64 Try.underlying47 Try.info49 .i64 .i64 m (by omega) (by omega)
  obtain ⟨d1, d2, d3, d4, A, C, hc⟩ := hnd
  have HC : Hid (∀ j, j < m → w.cell? ⟨gc, j * 5, none⟩ = some (.slice (A j) (K j).n (C j)) ∧ Bs w lo hi own (K j) (A j)) := hc
  clear hc
  have d1' : ¬ dn = w.heap.size := by omega
  go_enter Try.func17, Try.ntmps17
  go_wp2
  have o1 : RInv w ((w.alloc (.cells #[.slice l.a l.n l.c, .slice h.a h.n h.c, .int .u64 p, .int .i64 ce] 49)).alloc (.cells (madeCells z49 (m * 4)) 49)) K m 0 q h (fun _ => l) := by
    refine ⟨?_, ?_, fun j h1 h2 => by omega, ((Below.refl _ _).alloc (Nat.le_refl _) _).alloc (by simp) _⟩
    · rw [World.cell?_of_block (w := w.alloc _) (Below.heap_alloc _ _ _ (by simp))]
      rw [World.cell?_alloc_mark]
      rfl
    · have := rowIs_rows (w.alloc (.cells #[.slice l.a l.n l.c, .slice h.a h.n h.c, .int .u64 p, .int .i64 ce] 49)) z49 (m * 4) 49
      simp only [World.size_alloc] at this
      exact this.congr (fun i _ => by unfold RRow; rw [if_neg (by omega)]; rfl)
  clear hmk
  go_loopw [8, 24] (fun vl vi wr => ∃ (t : Nat) (L : Nat → SV), t ≤ m ∧ vi = .int .i64 t ∧ vl = .slice (L t).a (L t).n (L t).c ∧ RInv w wr K m t q h L) (fun _ vi _ => m - (intOf vi).toNat)
  case atStart => exact ⟨0, _, by omega, rfl, rfl, o1⟩
  case round =>
    clear o1
    obtain ⟨t, L, ht, rfl, rfl, hinv⟩ := hrel
    have hbel := hinv.2.2.2
    have hbox := hinv.1
    have e4 : wr.cell? ⟨dn, 1, none⟩ = some (.slice (some ⟨gc, 0, none⟩) m m) := (hbel.cell (by exact d1)).trans d4
    have hrl := hinv.2.1.lt
    clear d4
    by_cases hlt : t < m
    · by_cases hl2 : t + 1 < m
      · obtain ⟨hc1, hc2⟩ := HC.out (t + 1) hl2
        have hck : wr.cell? ⟨gc, (t + 1) * 5, none⟩ = some (.slice (A (t + 1)) (K (t + 1)).n (C (t + 1))) := (hbel.cell (by exact d2)).trans hc1
        have hbs : Bs wr lo hi own (K (t + 1)) (A (t + 1)) := hc2.stays (fun i _ h => hbel.block i (by omega))
        have hnt := hn (t + 1) hl2
        have hhr : hi ≤ wr.heap.size := Nat.le_trans d3 hbel.size
        clear hc1 hc2 HC
        go_wp2_with fail
        refine (bClone_any _ _ lo hi own (K (t + 1)) hnt _ hbs hhr).mono ?_
        rintro e w1 ⟨a', c', rfl, hb', hB⟩
        have hrow := hinv.2.1.of_block (hB.block _ hrl)
        have g0 := hrow.cell (i := t * 4) (by omega)
        have g1 := hrow.cell (i := t * 4 + 1) (by omega)
        have g2 := hrow.cell (i := t * 4 + 2) (by omega)
        have g3 := hrow.cell (i := t * 4 + 3) (by omega)
        have k0 := hrow.frozen (t * 4)
        have k1 := hrow.frozen (t * 4 + 1)
        have k2 := hrow.frozen (t * 4 + 2)
        have k3 := hrow.frozen (t * 4 + 3)
        have X := hinv.step ⟨a', (K (t + 1)).n, c'⟩ hB (fun _ => ⟨rfl, hb'⟩)
        clear hinv hbs hhr hb' hB hrow hbel
        go_wp2
        go_roundw
        case rel => exact ⟨t + 1, _, by omega, by go_num, by rw [upd_same], X⟩
        case measure => simp [intOf]; omega
      · have hrow := hinv.2.1
        have g0 := hrow.cell (i := t * 4) (by omega)
        have g1 := hrow.cell (i := t * 4 + 1) (by omega)
        have g2 := hrow.cell (i := t * 4 + 2) (by omega)
        have g3 := hrow.cell (i := t * 4 + 3) (by omega)
        have k0 := hrow.frozen (t * 4)
        have k1 := hrow.frozen (t * 4 + 1)
        have k2 := hrow.frozen (t * 4 + 2)
        have k3 := hrow.frozen (t * 4 + 3)
        have X := hinv.step h (Below.refl _ _) (fun h => by omega)
        clear hinv hrow hbel HC
        go_wp2
        go_roundw
        case rel => exact ⟨t + 1, _, by omega, by go_num, by rw [upd_same], X⟩
        case measure => simp [intOf]; omega
    · obtain rfl : t = m := by omega
      have X1 : wr.rowIs (w.heap.size + 1) 49 (t * 4) (RC L q) := hinv.2.1.congr (fun i hi => by unfold RRow; rw [if_pos (by omega)])
      have X2 := fun j h1 h2 => (hinv.2.2.1 j h1 (by omega) h2)
      clear hinv HC
      go_wp2
      go_ret
      exact ⟨_, L, rfl, by omega, X1, fun j h1 h2 => ⟨(X2 j h1 h2).1, (X2 j h1 h2).2.mono (by omega) (Nat.le_refl _)⟩, hbel⟩
end Go.Proofs.Qxb6604034a
