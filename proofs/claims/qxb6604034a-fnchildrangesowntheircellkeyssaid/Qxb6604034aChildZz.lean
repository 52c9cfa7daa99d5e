import Derived.Test.Qxb6604034aChildRanges
namespace Go.Proofs.Qxb6604034a
open Go.RowKit

theorem RC_0 (L : Nat → SV) (q : Int) (t : Nat) : RC L q (t * 4) = .slice (L t).a (L t).n (L t).c := by
  unfold RC; rw [if_pos (by omega), show t * 4 / 4 = t from by omega]
theorem RC_1 (L : Nat → SV) (q : Int) (t : Nat) : RC L q (t * 4 + 1) = .slice (L (t + 1)).a (L (t + 1)).n (L (t + 1)).c := by
  unfold RC; rw [if_neg (by omega), if_pos (by omega), show (t * 4 + 1) / 4 = t from by omega]
theorem RC_2 (L : Nat → SV) (q : Int) (t : Nat) : RC L q (t * 4 + 2) = .int .u64 q := by
  unfold RC; rw [if_neg (by omega), if_neg (by omega), if_pos (by omega)]
theorem RC_3 (L : Nat → SV) (q : Int) (t : Nat) : RC L q (t * 4 + 3) = .int .i64 (t : Int) := by
  unfold RC; rw [if_neg (by omega), if_neg (by omega), if_neg (by omega), show (t * 4 + 3) / 4 = t from by omega]

/-- the node's cells with the first t keys laid -/
def CRow (K : Nat → KD) (A : Nat → Option Addr) (C : Nat → Nat) (t : Nat) : Nat → Value := fun x => if x % 5 = 0 ∧ x / 5 < t then .slice (A (x / 5)) (K (x / 5)).n (C (x / 5)) else z46[x % 5]!
theorem CRow_next (K : Nat → KD) (A : Nat → Option Addr) (C : Nat → Nat) (t j : Nat) : (if j = t * 5 then Value.slice (A t) (K t).n (C t) else CRow K A C t j) = CRow K A C (t + 1) j := by
  unfold CRow
  by_cases e : j = t * 5
  · subst e
    rw [if_pos rfl, if_pos (by omega), show t * 5 / 5 = t from by omega]
  · rw [if_neg e]
    by_cases h : j % 5 = 0 ∧ j / 5 < t
    · rw [if_pos h, if_pos (by omega)]
    · rw [if_neg h, if_neg (by omega)]
theorem CRow_at (K : Nat → KD) (A : Nat → Option Addr) (C : Nat → Nat) (t j : Nat) (h : j < t) : CRow K A C t (j * 5) = .slice (A j) (K j).n (C j) := by
  unfold CRow
  rw [if_pos (by omega), show j * 5 / 5 = j from by omega]

def C1 (w wr : World) (K : Nat → KD) (m t : Nat) (A : Nat → Option Addr) (C : Nat → Nat) : Prop :=
  wr.rowIs w.heap.size 46 (m * 5) (CRow K A C t) ∧ wr.cell? ⟨w.heap.size + 1, 1, none⟩ = some (.slice (some ⟨w.heap.size, 0, none⟩) m m) ∧ w.heap.size + 1 < wr.heap.size ∧ Below w.heap.size w wr
theorem C1.step {w wr : World} {K : Nat → KD} {m t : Nat} {A : Nat → Option Addr} {C : Nat → Nat} (h : C1 w wr K m t A C) : C1 w (wr.setCell ⟨w.heap.size, t * 5, none⟩ (.slice (A t) (K t).n (C t))) K m (t + 1) A C := by
  obtain ⟨h1, h2, h3, h4⟩ := h
  refine ⟨(h1.set _ _).congr (fun j _ => CRow_next K A C t j), ?_, by simpa [World.setCell] using h3, h4.setCell (Nat.le_refl _) _⟩
  rw [World.cell?_of_block (w := wr) (Below.heap_setCell _ _ _ _ (by show w.heap.size + 1 ≠ w.heap.size; omega))]
  exact h2

def SRow (L : Nat → SV) (t : Nat) : Nat → Value := fun j => if j < t then .slice (L j).a (L j).n (L j).c else .slice none 0 0
theorem SRow_next (L : Nat → SV) (t j : Nat) : (if j = t then Value.slice (L t).a (L t).n (L t).c else SRow L t j) = SRow L (t + 1) j := by
  unfold SRow
  by_cases e : j = t
  · subst e; rw [if_pos rfl, if_pos (by omega)]
  · rw [if_neg e]
    by_cases h : j < t
    · rw [if_pos h, if_pos (by omega)]
    · rw [if_neg h, if_neg (by omega)]

/-- the four rows that are filled -/
def C2 (w1 wr : World) (m t : Nat) (L : Nat → SV) : Prop :=
  wr.rowIs w1.heap.size 22 m (SRow L t) ∧ wr.rowIs (w1.heap.size + 1) 22 m (SRow (fun j => L (j + 1)) t) ∧
  (∃ f, wr.rowIs (w1.heap.size + 2) 23 m f) ∧ (∃ f, wr.rowIs (w1.heap.size + 3) 3 m f) ∧ Below w1.heap.size w1 wr

theorem C1.drew {w wr : World} {K : Nat → KD} {m t : Nat} {A : Nat → Option Addr} {C : Nat → Nat} (h : C1 w wr K m t A C) : C1 w wr.drew K m t A C := ⟨h.1, h.2.1, h.2.2.1, h.2.2.2.drew⟩
theorem C2.start (w1 : World) (m : Nat) (L : Nat → SV) :
    C2 w1 ((((w1.alloc (.cells (madeCells #[Value.slice none 0 0] m) 22)).alloc (.cells (madeCells #[Value.slice none 0 0] m) 22)).alloc (.cells (madeCells #[Value.int .u64 0] m) 23)).alloc (.cells (madeCells #[Value.int .i64 0] m) 3)) m 0 L := by
  refine ⟨?_, ?_, ⟨fun _ => .int .u64 0, ?_⟩, ⟨fun _ => .int .i64 0, ?_⟩, (((((Below.refl _ _).alloc (Nat.le_refl _) _).alloc (by simp) _).alloc (by simp; omega) _).alloc (by simp; omega) _)⟩
  · exact ((((World.rowIs_made w1 _ _ _).congr (fun j _ => by unfold SRow; rw [if_neg (by omega)])).alloc _).alloc _).alloc _
  · have := World.rowIs_made (w1.alloc (.cells (madeCells #[Value.slice none 0 0] m) 22)) (.slice none 0 0) m 22
    simp only [World.size_alloc] at this
    exact ((this.congr (fun j _ => by unfold SRow; rw [if_neg (by omega)])).alloc _).alloc _
  · have := World.rowIs_made ((w1.alloc (.cells (madeCells #[Value.slice none 0 0] m) 22)).alloc (.cells (madeCells #[Value.slice none 0 0] m) 22)) (.int .u64 0) m 23
    simp only [World.size_alloc] at this
    exact this.alloc _
  · have := World.rowIs_made (((w1.alloc (.cells (madeCells #[Value.slice none 0 0] m) 22)).alloc (.cells (madeCells #[Value.slice none 0 0] m) 22)).alloc (.cells (madeCells #[Value.int .u64 0] m) 23)) (.int .i64 0) m 3
    simp only [World.size_alloc] at this
    exact this
theorem C2.step {w1 wr : World} {m t : Nat} {L : Nat → SV} (h : C2 w1 wr m t L) (v2 v3 : Value) :
    C2 w1 ((((wr.setCell ⟨w1.heap.size, t, none⟩ (.slice (L t).a (L t).n (L t).c)).setCell ⟨w1.heap.size + 1, t, none⟩ (.slice (L (t + 1)).a (L (t + 1)).n (L (t + 1)).c)).setCell ⟨w1.heap.size + 2, t, none⟩ v2).setCell ⟨w1.heap.size + 3, t, none⟩ v3) m (t + 1) L := by
  obtain ⟨h1, h2, ⟨f3, h3⟩, ⟨f4, h4⟩, h5⟩ := h
  refine ⟨?_, ?_, ?_, ?_, (((h5.setCell (Nat.le_refl _) _).setCell (Nat.le_add_right _ _) _).setCell (Nat.le_add_right _ _) _).setCell (Nat.le_add_right _ _) _⟩
  · exact ((((h1.set _ _).setOther (by show w1.heap.size ≠ w1.heap.size + 1; omega) _).setOther (by show w1.heap.size ≠ w1.heap.size + 2; omega) _).setOther (by show w1.heap.size ≠ w1.heap.size + 3; omega) _).congr (fun j _ => SRow_next L t j)
  · exact ((((h2.setOther (by show w1.heap.size + 1 ≠ w1.heap.size; omega) _).set _ _).setOther (by show w1.heap.size + 1 ≠ w1.heap.size + 2; omega) _).setOther (by show w1.heap.size + 1 ≠ w1.heap.size + 3; omega) _).congr (fun j _ => SRow_next (fun j => L (j + 1)) t j)
  · exact ⟨_, (((h3.setOther (by show w1.heap.size + 2 ≠ w1.heap.size; omega) _).setOther (by show w1.heap.size + 2 ≠ w1.heap.size + 1; omega) _).set _ _).setOther (by show w1.heap.size + 2 ≠ w1.heap.size + 3; omega) _⟩
  · exact ⟨_, (((h4.setOther (by show w1.heap.size + 3 ≠ w1.heap.size; omega) _).setOther (by show w1.heap.size + 3 ≠ w1.heap.size + 1; omega) _).setOther (by show w1.heap.size + 3 ≠ w1.heap.size + 2; omega) _).set _ _⟩

def ZPost (w : World) (K : Nat → KD) (m : Nat) (e : Ending) (w' : World) : Prop :=
  ∃ (g1 g2 g3 g4 : Nat) (L : Nat → SV), e = .returned (.tuple #[.slice (some ⟨g1, 0, none⟩) m m, .slice (some ⟨g2, 0, none⟩) m m, .slice (some ⟨g3, 0, none⟩) m m, .slice (some ⟨g4, 0, none⟩) m m]) ∧
    w.heap.size ≤ g1 ∧ w.heap.size ≤ g2 ∧ w'.rowIs g1 22 m (SRow L m) ∧ w'.rowIs g2 22 m (SRow (fun j => L (j + 1)) m) ∧
    (∀ j, 1 ≤ j → j < m → (L j).n = (K j).n ∧ Bs w' w.heap.size w'.heap.size true (K j) (L j).a) ∧ Below w.heap.size w w'

theorem Try.info3' : (Try.prog.info? 3).map (fun i => (i.zero, i.size, i.bytes)) = some (some (.int .i64 0), 1, 8) := by kernel_rfl

set_option maxHeartbeats 1000000 in
theorem zzRanges_any (l h : SV) (p ce q : Int) (a : Option Addr) (c lo hi m : Nat) (own : Bool) (K : Nat → KD) (hm : m ≤ 65536) (hn : ∀ j, j < m → (K j).n ≤ 1048576) (w : World) (hk : Ks w lo hi own K m a) (hhi : hi ≤ w.heap.size) :
    Calls Try.prog 9 #[.slice l.a l.n l.c, .slice h.a h.n h.c, .int .u64 p, .int .i64 ce, .int .u64 q, .slice a m c] w fun e w' => ZPost w K m e w' := by
  have hm42 := run_make_rows (P := Try.prog) 42 46 (.agg z46) z46 (by kernel_rfl) 5 72 Try.underlying42 Try.info46 .i64 .i64 m (by omega) (by omega)
  have hm24 := run_make_row' (P := Try.prog) 24 22 (.slice none 0 0) 24 Try.underlying24 Try.info22 rfl .i64 .i64 m (by omega) (by omega)
  have hm29 := run_make_row' (P := Try.prog) 29 23 (.int .u64 0) 8 Try.underlying29 Try.info23 rfl .i64 .i64 m (by omega) (by omega)
  have hm30 := run_make_row' (P := Try.prog) 30 3 (.int .i64 0) 8 Try.underlying30 Try.info3' rfl .i64 .i64 m (by omega) (by omega)
  obtain ⟨A, C, hkc⟩ : ∃ (A : Nat → Option Addr) (C : Nat → Nat), 0 < m → ∃ b off, a = some ⟨b, off, none⟩ ∧ b < hi ∧ ∀ j, j < m → w.cell? ⟨b, off + j, none⟩ = some (.slice (A j) (K j).n (C j)) ∧ Bs w lo hi own (K j) (A j) := by
    by_cases h0 : 0 < m
    · obtain ⟨b, off, e, _, h2, A, C, hc⟩ := hk.2 h0
      exact ⟨A, C, fun _ => ⟨b, off, e, h2, hc⟩⟩
    · exact ⟨fun _ => none, fun _ => 0, fun h => absurd h h0⟩
  clear hk
  go_enter Try.func9, Try.ntmps9
  go_wp2
  have o1 : C1 w ((w.alloc (.cells (madeCells z46 (m * 5)) 46)).alloc (.cells #[.int .u8 3, .slice (some ⟨w.heap.size, 0, none⟩) m m] 44)) K m 0 A C := by
    refine ⟨?_, ?_, by simp, ((Below.refl _ _).alloc (Nat.le_refl _) _).alloc (by simp) _⟩
    · exact ((rowIs_rows w z46 (m * 5) 46).congr (fun i _ => by unfold CRow; rw [if_neg (by omega)]; rfl)).alloc _
    · have := World.cell?_alloc_mark (w.alloc (.cells (madeCells z46 (m * 5)) 46)) #[.int .u8 3, .slice (some ⟨w.heap.size, 0, none⟩) m m] 44 (0, 0) 1
      simp only [World.size_alloc] at this
      exact this
  go_loopw [17] (fun vi wr => ∃ t : Nat, t ≤ m ∧ vi = .int .i64 t ∧ C1 w wr K m t A C) (fun vi _ => m - (intOf vi).toNat)
  case atStart => exact ⟨0, by omega, rfl, o1⟩
  case round =>
    clear o1
    obtain ⟨t, ht, rfl, hinv⟩ := hrel
    by_cases hlt : t < m
    · obtain ⟨b, off, rfl, hbh, hc⟩ := hkc (by omega)
      have hck : wr.cell? ⟨b, off + t, none⟩ = some (.slice (A t) (K t).n (C t)) := (hinv.2.2.2.cell (by show b < _; omega)).trans (hc t hlt).1
      have hnd := hinv.2.1
      have hok := hinv.1.cell (i := t * 5) (by omega)
      have hfr := hinv.1.frozen (t * 5)
      have X := hinv.step
      clear hc hkc hinv hm42 hm24 hm29 hm30
      go_wp2
      go_region
      all_goals go_wp2
      all_goals
        go_roundw
        case rel => exact ⟨t + 1, by omega, by go_num, X.drew⟩
        case measure => simp [intOf]; omega
    · obtain rfl : t = m := by omega
      have hbel := hinv.2.2.2
      have hnd : Nd wr (w.heap.size + 1) w.heap.size lo hi own K t := by
        refine ⟨hinv.2.2.1, by have := hinv.2.2.1; omega, by have := hbel.size; omega, hinv.2.1, A, C, fun j hj => ?_⟩
        obtain ⟨b, off, _, _, hc⟩ := hkc (by omega)
        refine ⟨?_, (hc j hj).2.stays (fun i _ h => hbel.block i (by omega))⟩
        rw [hinv.1.cell (by omega), CRow_at K A C t j hj]
      clear hinv hkc
      go_wp2_with fail
      refine (ranges_any l h _ _ _ _ _ lo hi _ own K hm hn _ hnd).mono ?_
      rintro e w1 ⟨r, L, rfl, hr, hrow, hL, hB1⟩
      clear hnd
      have hB : Below w.heap.size w w1 := hbel.trans (hB1.mono hbel.size)
      have hwr := hbel.size
      have hrlt := hrow.lt
      have HL : Hid (∀ j, 1 ≤ j → j < t → (L j).n = (K j).n ∧ Bs w1 w.heap.size w1.heap.size true (K j) (L j).a) := fun j h1 h2 => ⟨(hL j h1 h2).1, (hL j h1 h2).2.mono hwr (Nat.le_refl _)⟩
      have HROW : Hid (w1.rowIs r 49 (t * 4) (RC L q)) := hrow
      clear hL hrow hB1 hbel
      go_wp2
      have o2 := C2.start w1 t L
      clear hm42 hm24 hm29 hm30
      go_loopw [19] (fun vi wr => ∃ k : Nat, k ≤ t ∧ vi = .int .i64 k ∧ C2 w1 wr t k L) (fun vi _ => t - (intOf vi).toNat)
      case atStart => exact ⟨0, by omega, rfl, o2⟩
      case round =>
        clear o2
        obtain ⟨k, hk, rfl, hinv⟩ := hrel
        by_cases hlt2 : k < t
        · have hrow := HROW.out.of_block (hinv.2.2.2.2.block r hrlt)
          have r0 := hrow.cell (i := k * 4) (by omega)
          have r1 := hrow.cell (i := k * 4 + 1) (by omega)
          have r2 := hrow.cell (i := k * 4 + 2) (by omega)
          have r3 := hrow.cell (i := k * 4 + 3) (by omega)
          rw [RC_0] at r0
          rw [RC_1] at r1
          rw [RC_2] at r2
          rw [RC_3] at r3
          have X := hinv.step (.int .u64 q) (.int .i64 (k : Int))
          obtain ⟨h1, h2, ⟨f3, h3⟩, ⟨f4, h4⟩, h5⟩ := hinv
          have s1 := h1.cell hlt2
          have s2 := h2.cell hlt2
          have s3 := h3.cell hlt2
          have s4 := h4.cell hlt2
          have z1 := h1.frozen k
          have z2 := h2.frozen k
          have z3 := h3.frozen k
          have z4 := h4.frozen k
          have n1 : ¬ r = w1.heap.size := by omega
          have n2 : ¬ r = w1.heap.size + 1 := by omega
          have n3 : ¬ r = w1.heap.size + 2 := by omega
          have n4 : ¬ r = w1.heap.size + 3 := by omega
          clear hrow h1 h2 h3 h4 h5
          go_wp2
          go_roundw
          case rel => exact ⟨k + 1, by omega, by go_num, X⟩
          case measure => simp [intOf]; omega
        · obtain rfl : k = t := by omega
          have X : ZPost w K k (.returned (.tuple #[.slice (some ⟨w1.heap.size, 0, none⟩) k k, .slice (some ⟨w1.heap.size + 1, 0, none⟩) k k, .slice (some ⟨w1.heap.size + 2, 0, none⟩) k k, .slice (some ⟨w1.heap.size + 3, 0, none⟩) k k])) wr := by
            obtain ⟨h1, h2, _, _, h5⟩ := hinv
            have hs5 := h5.size
            refine ⟨_, _, _, _, L, rfl, hB.size, by have := hB.size; omega, h1, h2, fun j j1 j2 => ?_, hB.trans (h5.mono hB.size)⟩
            obtain ⟨l1, l2⟩ := HL.out j j1 j2
            exact ⟨l1, (l2.stays (fun i _ h => h5.block i h)).mono (Nat.le_refl _) hs5⟩
          clear hinv HL HROW
          go_wp2
          exact bodyPost_ret (v := .tuple #[.slice (some ⟨w1.heap.size, 0, none⟩) k k, .slice (some ⟨w1.heap.size + 1, 0, none⟩) k k, .slice (some ⟨w1.heap.size + 2, 0, none⟩) k k, .slice (some ⟨w1.heap.size + 3, 0, none⟩) k k]) (by simp [results, Try.results9, go_sem]) rfl X
end Go.Proofs.Qxb6604034a
