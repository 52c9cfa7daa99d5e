import Derived.Test.Qxb6604034aEvenPrefix
namespace Go.Proofs.Qxb6604034a
open Go.RowKit

def LawPost (w : World) (e : Ending) (w' : World) : Prop := e = .returned (.bool true) ∧ Below w.heap.size w w'

theorem law_long (a : Option Addr) (n c : Nat) (h : 131072 < n) (hm : n ≤ maxLen) (w : World) :
    Calls Try.prog 4 #[.slice a n c] w fun e w' => LawPost w e w' := by
  have hm' := hm
  unfold maxLen at hm'
  by_cases h1 : n ≤ 1048576
  · go_enter Try.func4, Try.ntmps4
    go_wp2_with (go_at_call 11; refine (bytes_any _ _ _ hm _).mono ?_; rintro e w' ⟨rfl, rfl⟩)
    go_ret
    exact ⟨rfl, Below.refl _ _⟩
  · go_enter Try.func4, Try.ntmps4
    go_wp2_with (go_at_call 11; refine (bytes_any _ _ _ hm _).mono ?_; rintro e w' ⟨rfl, rfl⟩)
    go_ret
    exact ⟨rfl, Below.refl _ _⟩

theorem reads_cell {w : World} {g n : Nat} {f : Nat → Int} (h : Reads w (some ⟨g, 0, none⟩) n f) (j : Nat) (hj : j < n) : w.cell? ⟨g, j, none⟩ = some (.int .i64 (f j)) := by
  obtain ⟨b, off, e, hc⟩ := h (by omega)
  simp at e
  obtain ⟨rfl, rfl⟩ := e
  have := hc j hj
  rwa [Nat.zero_add] at this

theorem abs_as (x G : Int) (hG : max x (-x) = G) (h0 : -9223372036854775807 ≤ x) (h1 : x ≤ 9223372036854775807) (w : World) :
    Calls Try.prog 16 #[.int .i64 x] w fun e w' => e = .returned (.int .i64 G) ∧ w' = w := by
  subst hG
  exact (abs_any x h0 h1 w).mono fun e w' h => ⟨h.1, h.2.symm⟩

set_option maxHeartbeats 1000000 in
theorem law_any (a : Option Addr) (n c : Nat) (f : Nat → Int) (hn : n ≤ 131072) (hnil : a = none → n = 0) (w : World) (hr : Reads w a n f) (hf : ∀ j, -9223372036854775808 ≤ f j ∧ f j ≤ 9223372036854775807) :
    Calls Try.prog 4 #[.slice a n c] w fun e w' => LawPost w e w' := by
  have hm : n ≤ maxLen := by unfold maxLen; omega
  have hn2 : n ≤ 1048576 := by omega
  go_enter Try.func4, Try.ntmps4
  go_wp2_with fail
  refine (bytes_any _ _ _ hm _).mono ?_; rintro e w' ⟨rfl, rfl⟩
  go_wp2_with fail
  refine (evenFit_any _ _ _ f hn _ hr hf).mono ?_; rintro e w' ⟨⟨b, rfl, hfit⟩, rfl⟩
  cases b with
  | false =>
    go_wp2
    go_ret
    exact ⟨rfl, Below.refl _ _⟩
  | true =>
    have hF := hfit rfl
    clear hfit hf hm
    go_wp2_with fail
    refine (clone_any _ _ _ f hn hnil _ hr).mono ?_; rintro e w1 ⟨a', c', rfl, hr', hb1⟩
    clear hr hnil
    go_wp2_with fail
    refine (zzEvenCut_any _ _ _ f hn _ hr' hF).mono ?_; rintro e w' ⟨⟨b, g, rfl, hbest⟩, rfl⟩
    go_wp2_with fail
    refine (prefixes_any _ _ _ f hn _ hr' hF).mono ?_; rintro e w2 ⟨g1, g2, rfl, rp, rs, hb2⟩
    have hB : Below w.heap.size w w2 := hb1.trans (hb2.mono hb1.size)
    clear hr' hb1 hb2
    have HBest : Hid (Best f n (max 1 n) b g) := hbest
    have HF : Hid (Fits f n) := hF
    have RP : Hid (Reads w2 (some ⟨g1, 0, none⟩) (n + 1) (pre f)) := rp
    have RS : Hid (Reads w2 (some ⟨g2, 0, none⟩) (n + 1) (suf f n)) := rs
    clear hbest hF rp rs
    by_cases hb0 : b = 0
    · subst hb0
      have hno : ∀ j, 1 ≤ j → j < n → ¬ fit f n j := by
        rcases HBest.out with ⟨_, h⟩ | ⟨h, _⟩
        · exact fun j h1 h2 => h j h1 (by omega)
        · omega
      have HNO : Hid (∀ j, 1 ≤ j → j < n → ¬ fit f n j) := hno
      clear hno HBest
      go_wp2
      go_loop [7] (fun i => ∃ k : Nat, 1 ≤ k ∧ k ≤ max 1 n ∧ i = .int .i64 k) (fun i => n - (intOf i).toNat)
      case atStart => exact ⟨1, by omega, by omega, rfl⟩
      case round =>
        obtain ⟨k, hk1, hk2, rfl⟩ := hrel
        by_cases hlt : k < n
        · have h1 := reads_cell RP.out k (by omega)
          have h2 := reads_cell RS.out k (by omega)
          have hnf : ¬ (pre f k ≤ 4078 ∧ suf f n k ≤ 4078) := HNO.out k hk1 hlt
          have hc : 4078 < pre f k ∨ 4078 < suf f n k := by omega
          clear hnf
          by_cases hc1 : 4078 < pre f k
          · clear hc
            go_wp2
            go_round
            case rel => exact ⟨k + 1, by omega, by omega, by go_num⟩
            case measure => simp [intOf]; omega
          · have hc2 : 4078 < suf f n k := by omega
            clear hc
            go_wp2
            go_round
            case rel => exact ⟨k + 1, by omega, by omega, by go_num⟩
            case measure => simp [intOf]; omega
        · go_wp2
          go_ret
          exact ⟨rfl, hB⟩
    · have hbc : ((b : Int) != 0) = true := by simp; exact hb0
      obtain ⟨hb1, hbn, hbf, hbest⟩ : 1 ≤ b ∧ b < n ∧ fit f n b ∧ ∀ j, 1 ≤ j → j < n → fit f n j → gap f n b ≤ gap f n j ∧ (j < b → gap f n b < gap f n j) := by
        rcases HBest.out with ⟨h, _⟩ | ⟨h1, h2, h3, _, h5⟩
        · exact absurd h hb0
        · exact ⟨h1, by omega, h3, fun j g1 g2 => h5 j g1 (by omega)⟩
      have HBE : Hid (∀ j, 1 ≤ j → j < n → fit f n j → gap f n b ≤ gap f n j ∧ (j < b → gap f n b < gap f n j)) := hbest
      clear hbest HBest
      have hp := reads_cell RP.out b (by omega)
      have hs := reads_cell RS.out b (by omega)
      obtain ⟨hf1, hf2⟩ : pre f b ≤ 4078 ∧ suf f n b ≤ 4078 := hbf
      obtain ⟨pb0, pb1⟩ := HF.out.pre b (by omega)
      obtain ⟨sb0, sb1⟩ := HF.out.suf b (by omega)
      go_wp2
      clear hp hs
      go_loopw [7, 8, 9] (fun i _ _ wr => ∃ k : Nat, 1 ≤ k ∧ k ≤ n ∧ i = .int .i64 k ∧ Reads wr (some ⟨g1, 0, none⟩) (n + 1) (pre f) ∧ Reads wr (some ⟨g2, 0, none⟩) (n + 1) (suf f n) ∧ Below w.heap.size w wr) (fun i _ _ _ => n - (intOf i).toNat)
      case atStart => exact ⟨1, by omega, by omega, rfl, RP.out, RS.out, hB⟩
      case round =>
        clear hB RP RS
        obtain ⟨k, hk1, hk2, rfl, rp, rs, hB⟩ := hrel
        have RP : Hid (Reads wr (some ⟨g1, 0, none⟩) (n + 1) (pre f)) := rp
        have RS : Hid (Reads wr (some ⟨g2, 0, none⟩) (n + 1) (suf f n)) := rs
        clear rp rs
        by_cases hlt : k < n
        · have h1 := reads_cell RP.out k (by omega)
          have h2 := reads_cell RS.out k (by omega)
          by_cases hc1 : 4078 < pre f k
          · go_wp2
            go_roundw
            case rel => exact ⟨k + 1, by omega, by omega, by go_num, RP.out, RS.out, hB⟩
            case measure => simp [intOf]; omega
          by_cases hc2 : 4078 < suf f n k
          · go_wp2
            go_roundw
            case rel => exact ⟨k + 1, by omega, by omega, by go_num, RP.out, RS.out, hB⟩
            case measure => simp [intOf]; omega
          obtain ⟨hg1, hg2⟩ := HBE.out k hk1 hlt ⟨by omega, by omega⟩
          have hp := reads_cell RP.out b (by omega)
          have hs := reads_cell RS.out b (by omega)
          obtain ⟨pk0, pk1⟩ := HF.out.pre k (by omega)
          obtain ⟨sk0, sk1⟩ := HF.out.suf k (by omega)
          have eb := gap_abs f n b
          have ek := gap_abs f n k
          have EB : Hid (max (pre f b - suf f n b) (-(pre f b - suf f n b)) = gap f n b) := eb
          have EK : Hid (max (pre f k - suf f n k) (-(pre f k - suf f n k)) = gap f n k) := ek
          clear eb ek
          have hbz : ((b : Int) == 0) = false := beq_eq_false_iff_ne.2 (by omega)
          go_wp2
          go_quiet ((go_at_call 16; exact Calls.quiet_of_same (abs_as _ _ EK.out (by omega) (by omega) _)))
          go_wp2
          go_quiet ((go_at_call 16; exact (abs_as _ _ EB.out (by omega) (by omega) _).mono fun e w1 h => ⟨h.1, _, h.2⟩))
          by_cases hkb : k < b
          · have hge : (gap f n k == gap f n b) = false := beq_eq_false_iff_ne.2 (by have := hg2 hkb; omega)
            clear hg2
            go_wp2
            go_roundw
            case rel => exact ⟨k + 1, by omega, by omega, by go_num, RP.out, RS.out, below_drewN hB _⟩
            case measure => simp [intOf]; omega
          · clear hg2
            go_wp2
            go_roundw
            case rel => exact ⟨k + 1, by omega, by omega, by go_num, RP.out, RS.out, below_drewN hB _⟩
            case measure => simp [intOf]; omega
        · go_wp2
          go_ret
          exact ⟨rfl, hB⟩
end Go.Proofs.Qxb6604034a
