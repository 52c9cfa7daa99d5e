import Derived.Test.Qxb6604034aChildZz
namespace Go.Proofs.Qxb6604034a
open Go.RowKit

/-- while the keys' bytes are overwritten: outside blocks g+1 up to S the memory is as in w5; the bytes of the keys stay bytes that may be written -/
structure OW (w5 wr : World) (g S m : Nat) (A : Nat → Option Addr) (K : Nat → KD) : Prop where
  bel : Below (g + 1) w5 wr
  size : wr.heap.size = w5.heap.size
  above : ∀ i, S ≤ i → wr.heap[i]? = w5.heap[i]?
  cells : ∀ j, j < m → 0 < (K j).n → ∃ b off, A j = some ⟨b, off, none⟩ ∧ g < b ∧ b < S ∧ ∀ t, t < (K j).n → (∃ y, wr.cell? ⟨b, off + t, none⟩ = some (.int .u8 y)) ∧ wr.frozen? ⟨b, off + t, none⟩ = false

theorem OW.step {w5 wr : World} {g S m : Nat} {A : Nat → Option Addr} {K : Nat → KD} (h : OW w5 wr g S m A K) (b o : Nat) (hb : g < b) (hb' : b < S) (y : Int) : OW w5 (wr.setCell ⟨b, o, none⟩ (.int .u8 y)) g S m A K := by
  refine ⟨h.bel.setCell (by exact hb) _, by rw [← h.size]; simp [World.setCell], fun i hi => ?_, fun j hj hn => ?_⟩
  · rw [Below.heap_setCell _ _ _ _ (by show i ≠ b; omega)]; exact h.above i hi
  · obtain ⟨b1, off, e, h1, h2, hc⟩ := h.cells j hj hn
    refine ⟨b1, off, e, h1, h2, fun t ht => ?_⟩
    obtain ⟨⟨z, hz⟩, hf⟩ := hc t ht
    refine ⟨?_, by rw [World.frozen?_setCell]; exact hf⟩
    by_cases e1 : (⟨b, o, none⟩ : Addr) = ⟨b1, off + t, none⟩
    · rw [e1]; exact ⟨y, World.cell?_setCell_same _ _ _ hz⟩
    · exact ⟨z, by rw [World.cell?_setCell_other _ _ _ _ e1]; exact hz⟩

/-- what the last loop reads -/
structure FL (w wr : World) (gl gh m : Nat) (L : Nat → SV) (K : Nat → KD) (ao : Option Addr) (lo hi S : Nat) : Prop where
  los : wr.rowIs gl 22 m (SRow L m)
  his : wr.rowIs gh 22 m (SRow (fun j => L (j + 1)) m)
  keys : ∀ j, 1 ≤ j → j < m → (L j).n = (K j).n ∧ Bs wr S wr.heap.size true (K j) (L j).a
  orig : KO wr lo hi K m ao
  bel : Below w.heap.size w wr
theorem FL.drewN {w wr : World} {gl gh m : Nat} {L : Nat → SV} {K : Nat → KD} {ao : Option Addr} {lo hi S : Nat} (h : FL w wr gl gh m L K ao lo hi S) (n : Nat) : FL w (wr.drewN n) gl gh m L K ao lo hi S :=
  ⟨h.los, h.his, h.keys, h.orig, below_drewN h.bel n⟩

theorem same_q (a b : Option Addr) (c c' lo hi lo' hi' : Nat) (own own' : Bool) (k : KD) (hn : k.n ≤ 1048576) (w : World) (ha : Bs w lo hi own k a) (hb : Bs w lo' hi' own' k b) (x : Nat) :
    Calls Try.prog 10 #[.slice a k.n c, .slice b k.n c'] (w.drewN x) fun e w' => e = .returned (.bool true) ∧ ∃ n, w' = w.drewN n :=
  (same_any a b c c' lo hi lo' hi' own own' k hn (w.drewN x) ha hb).mono fun e w' h => ⟨h.1, by
    obtain ⟨n, hn⟩ := h.2
    exact ⟨x + n, by rw [hn]; simp [World.drewN, Nat.add_assoc]⟩⟩

def LawPost2 (w : World) (e : Ending) (w' : World) : Prop := e = .returned (.bool true) ∧ Below w.heap.size w w'

set_option maxHeartbeats 2000000 in
theorem childLaw_any (a0 a1 a : Option Addr) (c0 c1 c m : Nat) (p ce q : Int) (k0 k1 : KD) (K : Nat → KD) (w : World) (hb0 : Bs w 0 w.heap.size false k0 a0) (hb1 : Bs w 0 w.heap.size false k1 a1) (hk : Ks w 0 w.heap.size false K m a) :
    Calls Try.prog 3 #[.slice a0 k0.n c0, .slice a1 k1.n c1, .int .u64 p, .int .i64 ce, .int .u64 q, .slice a m c] w fun e w' => LawPost2 w e w' := by
  go_enter Try.func3, Try.ntmps3
  go_wp2_with fail
  refine (zzBytes_any _ _ _ _ _ _ _ _ _ _ _ _ K _ _ _ _ hk).mono ?_; rintro e w' ⟨⟨b, rfl⟩, rfl⟩
  cases b with
  | false =>
    go_wp2
    go_ret
    exact ⟨rfl, Below.refl _ _⟩
  | true =>
  go_wp2_with fail
  refine (guard_any _ _ _ _ _ _ _ _ _ K _ _ _ _ hk).mono ?_; rintro e w' ⟨⟨b, rfl, hsm⟩, rfl⟩
  cases b with
  | false =>
    go_wp2
    go_ret
    exact ⟨rfl, Below.refl _ _⟩
  | true =>
  obtain ⟨n0, n1, hm, hn⟩ := hsm rfl
  have HN : Hid (∀ j, j < m → (K j).n ≤ 1048576) := hn
  clear hsm hn
  go_wp2_with fail
  refine (cloneBytes_any _ _ _ _ _ k0 n0 _ hb0 (Nat.le_refl _)).mono ?_; rintro e w1 ⟨l1, cl1, rfl, hl1, hB1⟩
  have hb1' : Bs w1 0 w.heap.size false k1 a1 := hb1.stays (fun i _ h => hB1.block i h)
  have hk1 : Ks w1 0 w.heap.size false K m a := hk.stays (fun i _ h => hB1.block i h)
  clear hb0 hb1 hk hl1
  go_wp2_with fail
  refine (cloneBytes_any _ _ _ _ _ k1 n1 _ hb1' hB1.size).mono ?_; rintro e w2 ⟨l2, cl2, rfl, hl2, hB2⟩
  have hs1 := hB1.size
  have hs2 := hB2.size
  have hk2 : Ks w2 0 w.heap.size false K m a := hk1.stays (fun i _ h => hB2.block i (by omega))
  have hB02 : Below w.heap.size w w2 := hB1.trans (hB2.mono hs1)
  clear hb1' hk1 hl2 hB1 hB2
  go_wp2_with fail
  refine (cloneKeys_any _ _ _ _ _ _ K hm HN.out _ hk2 hB02.size).mono ?_; rintro e w3 ⟨a3, c3, rfl, hK3, hB3⟩
  have hs3 := hB3.size
  clear hk2
  go_wp2_with fail
  refine (cloneKeys_any _ _ _ _ _ _ K hm HN.out _ hK3.ks (Nat.le_refl _)).mono ?_; rintro e w4 ⟨a4, c4, rfl, hK4, hB4⟩
  have hs4 := hB4.size
  have hK3' : KO w4 w2.heap.size w3.heap.size K m a3 := hK3.stays (fun i _ h => hB4.block i h)
  clear hK3
  go_wp2_with fail
  refine (zzRanges_any ⟨l1, k0.n, cl1⟩ ⟨l2, k1.n, cl2⟩ _ _ _ _ _ _ _ _ _ K hm HN.out _ hK3'.ks hs4).mono ?_
  rintro e w5 ⟨g1, g2, g3, g4, L, rfl, hg1, hg2, hr1, hr2, hL, hB5⟩
  have hs5 := hB5.size
  have hK3'' : KO w5 w2.heap.size w3.heap.size K m a3 := hK3'.stays (fun i _ h => hB5.block i (by omega))
  have hK4' : KO w5 w3.heap.size w4.heap.size K m a4 := hK4.stays (fun i _ h => hB5.block i h)
  have hB : Below w.heap.size w w5 := ((hB02.trans (hB3.mono (by omega))).trans (hB4.mono (by omega))).trans (hB5.mono (by omega))
  clear hK3' hK4 hB02 hB3 hB4 hB5
  have HL : Hid (∀ j, 1 ≤ j → j < m → (L j).n = (K j).n ∧ Bs w5 w4.heap.size w5.heap.size true (K j) (L j).a) := hL
  clear hL
  obtain ⟨g, A, C, hg, hgc⟩ : ∃ (g : Nat) (A : Nat → Option Addr) (C : Nat → Nat), w2.heap.size ≤ g ∧ (0 < m → a3 = some ⟨g, 0, none⟩ ∧ ∀ j, j < m → w5.cell? ⟨g, j, none⟩ = some (.slice (A j) (K j).n (C j)) ∧ Bs w5 (g + 1) w3.heap.size true (K j) (A j)) := by
    by_cases h0 : 0 < m
    · obtain ⟨g, e, h1, _, A, C, hc⟩ := hK3''.2 h0
      exact ⟨g, A, C, h1, fun _ => ⟨e, hc⟩⟩
    · exact ⟨w2.heap.size, fun _ => none, fun _ => 0, Nat.le_refl _, fun h => absurd h h0⟩
  have HGC : Hid (0 < m → a3 = some ⟨g, 0, none⟩ ∧ ∀ j, j < m → w5.cell? ⟨g, j, none⟩ = some (.slice (A j) (K j).n (C j)) ∧ Bs w5 (g + 1) w3.heap.size true (K j) (A j)) := hgc
  have o1 : OW w5 w5 g w3.heap.size m A K := by
    refine ⟨Below.refl _ _, rfl, fun _ _ => rfl, fun j hj hn => ?_⟩
    obtain ⟨_, hc⟩ := hgc (by omega)
    obtain ⟨b, off, e, h1, h2, h3, h4⟩ := (hc j hj).2.2.2 hn
    exact ⟨b, off, e, by omega, h2, fun t ht => ⟨⟨_, h3 t ht⟩, h4 rfl t ht⟩⟩
  clear hgc hK3''
  have R1 : Hid (w5.rowIs g1 22 m (SRow L m)) := hr1
  have R2 : Hid (w5.rowIs g2 22 m (SRow (fun j => L (j + 1)) m)) := hr2
  have HO : Hid (KO w5 w3.heap.size w4.heap.size K m a4) := hK4'
  clear hr1 hr2 hK4'
  go_wp2
  go_loopw [19] (fun vj wr => ∃ j : Nat, j ≤ m ∧ vj = .int .i64 j ∧ OW w5 wr g w3.heap.size m A K) (fun vj _ => m - (intOf vj).toNat)
  case atStart => exact ⟨0, by omega, rfl, o1⟩
  case round =>
    clear o1
    obtain ⟨j, hj, rfl, how⟩ := hrel
    by_cases hlt : j < m
    · obtain ⟨rfl, hc⟩ := HGC.out (by omega)
      have hck : wr.cell? ⟨g, j, none⟩ = some (.slice (A j) (K j).n (C j)) := (how.bel.cell (by show g < g + 1; omega)).trans (hc j hlt).1
      have hnj := HN.out j hlt
      clear hc
      obtain ⟨wo, rfl⟩ : ∃ wo : World, wo = wr := ⟨_, rfl⟩
      by_cases hn0 : (K j).n = 0
      · rw [hn0] at hck
        have HN0 : Hid ((K j).n = 0) := hn0
        clear hn0
        go_wp2
        go_loopw [21] (fun vt wr => vt = .int .i64 0 ∧ OW w5 wr g w3.heap.size m A K) (fun _ _ => 0)
        case atStart => exact ⟨rfl, how⟩
        case round =>
          clear how hck
          obtain ⟨rfl, how⟩ := hrel
          go_wp2
          go_roundw
          case rel => exact ⟨j + 1, by omega, by go_num, how⟩
          case measure => simp [intOf]; omega
      · obtain ⟨b, off, hA, hgb, hbS, _⟩ := how.cells j hlt (by omega)
        rw [hA] at hck
        have HA : Hid (A j = some ⟨b, off, none⟩) := hA
        clear hA
        go_wp2
        go_loopw [21] (fun vt wr => ∃ t : Nat, t ≤ (K j).n ∧ vt = .int .i64 t ∧ OW w5 wr g w3.heap.size m A K) (fun vt _ => (K j).n - (intOf vt).toNat)
        case atStart => exact ⟨0, by omega, rfl, how⟩
        case round =>
          clear how hck
          obtain ⟨t, ht, rfl, how⟩ := hrel
          by_cases hlt2 : t < (K j).n
          · have hcell : (∃ y, wr.cell? ⟨b, off + t, none⟩ = some (.int .u8 y)) ∧ wr.frozen? ⟨b, off + t, none⟩ = false := by
              obtain ⟨b', off', e', _, _, hc⟩ := how.cells j hlt (by omega)
              rw [HA.out] at e'
              simp at e'
              obtain ⟨rfl, rfl⟩ := e'
              exact hc t hlt2
            obtain ⟨⟨y, hy⟩, hf⟩ := hcell
            have X := fun z => how.step b (off + t) hgb hbS z
            clear how
            go_wp2
            go_roundw
            case rel => exact ⟨t + 1, by omega, by go_num, X _⟩
            case measure => simp [intOf]; omega
          · go_wp2
            go_roundw
            case rel => exact ⟨j + 1, by omega, by go_num, how⟩
            case measure => simp [intOf]; omega
    · have fl : FL w wr g1 g2 m L K a4 w3.heap.size w4.heap.size w4.heap.size := by
        refine ⟨R1.out.of_block (how.above _ (by omega)), R2.out.of_block (how.above _ (by omega)), fun j h1 h2 => ?_, HO.out.stays (fun i h _ => how.above i h), hB.trans (how.bel.mono (by omega))⟩
        obtain ⟨l1, l2⟩ := HL.out j h1 h2
        exact ⟨l1, by rw [how.size]; exact l2.stays (fun i h _ => how.above i (by omega))⟩
      clear how HL R1 R2 HO hB HGC
      obtain ⟨wo, rfl⟩ : ∃ wo : World, wo = wr := ⟨_, rfl⟩
      go_wp2
      go_loopw [22] (fun vi wr => ∃ i : Nat, i ≤ m ∧ vi = .int .i64 i ∧ FL w wr g1 g2 m L K a4 w3.heap.size w4.heap.size w4.heap.size) (fun vi _ => m - (intOf vi).toNat)
      case atStart => exact ⟨0, by omega, rfl, fl⟩
      case round =>
        clear fl
        obtain ⟨i, hi, rfl, fl⟩ := hrel
        by_cases hlt2 : i + 1 < m
        · obtain ⟨gO, rfl, _, _, AO, CO, hc⟩ := fl.orig.2 (by omega)
          obtain ⟨hco, hbo⟩ := hc (i + 1) hlt2
          obtain ⟨hLn, hLb⟩ := fl.keys (i + 1) (by omega) hlt2
          have s1 : wr.cell? ⟨g2, i, none⟩ = some (.slice (L (i + 1)).a (K (i + 1)).n (L (i + 1)).c) := by
            rw [fl.his.cell (by omega)]; unfold SRow; rw [if_pos (by omega), hLn]
          have s2 : wr.cell? ⟨g1, i + 1, none⟩ = some (.slice (L (i + 1)).a (K (i + 1)).n (L (i + 1)).c) := by
            rw [fl.los.cell (by omega)]; unfold SRow; rw [if_pos (by omega), hLn]
          have X := fun n => fl.drewN n
          have hnn := HN.out (i + 1) hlt2
          have Y := fun (x : Nat) => same_q (L (i + 1)).a (AO (i + 1)) (L (i + 1)).c (CO (i + 1)) _ _ _ _ _ _ (K (i + 1)) hnn wr hLb hbo x
          have HY : Hid (∀ x, Calls Try.prog 10 #[.slice (L (i + 1)).a (K (i + 1)).n (L (i + 1)).c, .slice (AO (i + 1)) (K (i + 1)).n (CO (i + 1))] (wr.drewN x) fun e w' => e = .returned (.bool true) ∧ ∃ n, w' = wr.drewN n) := Y
          clear hc hbo hLb fl hLn Y
          have hi1 : ((i : Int) + 1) < (m : Int) := by omega
          have hi0 : (i : Int) < (m : Int) := by omega
          go_wp2
          go_quiet ((go_at_call 10; exact HY.out _))
          go_wp2
          go_roundw
          case rel => exact ⟨i + 1, by omega, by go_num, X _⟩
          case measure => simp [intOf]; omega
        · go_wp2
          go_ret
          exact ⟨rfl, fl.bel⟩
end Go.Proofs.Qxb6604034a
