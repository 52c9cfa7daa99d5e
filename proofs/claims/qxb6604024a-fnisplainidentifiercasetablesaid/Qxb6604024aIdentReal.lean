import Derived.Test.Qxb6604024aIdentWalks
namespace Go.Proofs.Qxb6604024a
open Go.RowKit

/-- what the new row holds at j -/
theorem row_cell (w : World) (s : ByteArray) (cap : Nat) (fr : Nat × Nat) (j : Nat) (h : j < s.size) :
    (w.alloc (.cells (bytesRow s cap) 5 fr)).cell? ⟨w.heap.size, j, none⟩ = some (.int .u8 (bt s j)) := by
  rw [World.cell?_alloc_mark]
  unfold bytesRow
  have hd : j < s.data.size := h
  rw [Array.getElem?_append_left (by rw [Array.size_map]; exact hd), Array.getElem?_map, Array.getElem?_eq_getElem hd, ← bt_get s j h]
  rfl

/-- the loop's one round, whatever the byte -/
theorem plain_of (s : ByteArray) (h0 : ¬ s.size = 0) (h64 : ¬ 64 < s.size) (hd0 : cls (bt s 0) ≠ 1) (h : InTo s 0 s.size) : Plain s := by
  refine ⟨by omega, by omega, ?_, fun j _ h2 => h j (by omega) h2⟩
  have := h 0 (by omega) (by omega)
  rcases cls_cases (bt s 0) with g | g | g <;> omega
theorem InTo.zero (s : ByteArray) (i : Nat) : InTo s i 0 := fun j _ h => absurd h (Nat.not_lt_zero j)
theorem not_plain (s : ByteArray) (k : Nat) (hk : k < s.size) (h : cls (bt s k) = 0) : ¬ Plain s := by
  intro g
  by_cases e : k = 0
  · subst e; have := g.2.2.1; omega
  · exact g.2.2.2 k (by omega) hk h

set_option maxHeartbeats 1000000 in
theorem ident_any (s : ByteArray) (w : World) (hs : s.size ≤ 1048576) :
    Calls Try.prog 21 #[.string s] w fun e w' => PPost s w e w' := by
  by_cases h0 : s.size = 0
  · go_enter Try.func21, Try.ntmps21
    go_wp2
    go_ret
    exact ⟨_, rfl, by unfold Plain; simp; omega, Below.refl _ _⟩
  by_cases h64 : 64 < s.size
  · go_enter Try.func21, Try.ntmps21
    go_wp2
    go_ret
    exact ⟨_, rfl, by unfold Plain; simp; omega, Below.refl _ _⟩
  have hsz : 0 < s.size := by omega
  have e0 := bt_get s 0 hsz
  by_cases hd : 48 ≤ bt s 0 ∧ bt s 0 ≤ 57
  · have X : ¬ Plain s := fun h => by have := (cls_dig (bt s 0)).2 hd; have := h.2.2.1; omega
    obtain ⟨hd1, hd2⟩ := hd
    go_enter Try.func21, Try.ntmps21
    go_wp2
    go_ret
    exact ⟨_, rfl, by simp [X], Below.refl _ _⟩
  have hd0 : cls (bt s 0) ≠ 1 := fun h => hd ((cls_dig _).1 h)
  have hcv := fun w s => run_bytes_of_string (P := Try.prog) w 9 31 5 s Try.underlying9 Try.underlying31 Try.underlying5
  have hd' : bt s 0 < 48 ∨ 57 < bt s 0 := by omega
  clear hd
  have z0 : ((s.size : Int) == 0) = false := beq_eq_false_iff_ne.2 (by omega)
  have z64 : ((s.size : Nat) : Int) ≤ 64 := by omega
  have z63 : decide (64 < ((s.size : Nat) : Int)) = false := decide_eq_false (by omega)
  rcases hd' with hd | hd
  · go_enter Try.func21, Try.ntmps21
    go_wp2
    go_loopw [27] (fun i wr => ∃ k : Nat, k ≤ s.size ∧ i = .int .i64 k ∧ InTo s 0 k ∧ (∀ j, j < s.size → wr.cell? ⟨w.heap.size, j, none⟩ = some (.int .u8 (bt s j))) ∧ Below w.heap.size w wr) (fun i _ => s.size - (intOf i).toNat)
    case atStart => exact ⟨0, by omega, rfl, InTo.zero s 0, fun j hj => row_cell _ _ _ _ _ hj, ((Below.refl _ _).alloc (Nat.le_refl _) _).drew⟩
    case round =>
      obtain ⟨k, hk, rfl, hin, hcell, hbel⟩ := hrel
      have HC : Hid (∀ j, j < s.size → wr.cell? ⟨w.heap.size, j, none⟩ = some (.int .u8 (bt s j))) := hcell
      clear hcell hcv
      by_cases hlt : k < s.size
      · have hck := HC.out k hlt
        have X1 : Hid (cls (bt s k) ≠ 0 → InTo s 0 (k + 1)) := fun h => hin.succ h
        have X2 : Hid (cls (bt s k) = 0 → ¬ Plain s) := fun h => not_plain s k hlt h
        obtain ⟨c, hc⟩ : ∃ c, c = bt s k := ⟨_, rfl⟩
        have hz := cls_zero (bt s k)
        rw [← hc] at hck hz
        have HZ : Hid (cls c = 0 ↔ ¬ c = 95 ∧ ¬ (48 ≤ c ∧ c ≤ 57) ∧ ¬ (97 ≤ c ∧ c ≤ 122) ∧ ¬ (65 ≤ c ∧ c ≤ 90)) := hz
        have HCC : Hid (c = bt s k) := hc
        clear hz hc hin
        rcases (show (c = 95 ∨ (97 ≤ c ∧ c ≤ 122) ∨ (65 ≤ c ∧ c ≤ 90) ∨ (48 ≤ c ∧ c ≤ 57)) ∨ (c < 48 ∨ (57 < c ∧ c < 65) ∨ (90 < c ∧ c < 95) ∨ (95 < c ∧ c < 97) ∨ 122 < c) from by omega) with ok | bad
        · have X := X1.out (by rw [← HCC.out]; intro h; have := HZ.out.1 h; omega)
          clear X1 X2 HZ HCC
          rcases ok with rfl | ⟨o1, o2⟩ | ⟨o1, o2⟩ | ⟨o1, o2⟩
          all_goals
            go_wp2
            go_roundw
            case rel => exact ⟨k + 1, by omega, by go_num, X, HC.out, hbel⟩
            case measure => simp [intOf]; omega
        · have X := X2.out (by rw [← HCC.out]; exact HZ.out.2 (by omega))
          have hb : (c != 95) = true := by simp; omega
          clear X1 X2 HZ HCC
          rcases bad with o1 | ⟨o1, o2⟩ | ⟨o1, o2⟩ | ⟨o1, o2⟩ | o1
          all_goals try have q1 : decide (c ≤ 57) = false := decide_eq_false (by omega)
          all_goals try have q2 : decide (c ≤ 90) = false := decide_eq_false (by omega)
          all_goals try have q3 : decide (c ≤ 122) = false := decide_eq_false (by omega)
          all_goals
            go_wp2
            go_ret
            exact ⟨_, rfl, by simp [X], hbel⟩
      · have hke : InTo s 0 s.size := fun j h1 h2 => hin j h1 (by omega)
        have X := plain_of s h0 h64 hd0 hke
        clear hke
        go_wp2
        go_ret
        exact ⟨_, rfl, by simp [X], hbel⟩
  · go_enter Try.func21, Try.ntmps21
    go_wp2
    go_loopw [27] (fun i wr => ∃ k : Nat, k ≤ s.size ∧ i = .int .i64 k ∧ InTo s 0 k ∧ (∀ j, j < s.size → wr.cell? ⟨w.heap.size, j, none⟩ = some (.int .u8 (bt s j))) ∧ Below w.heap.size w wr) (fun i _ => s.size - (intOf i).toNat)
    case atStart => exact ⟨0, by omega, rfl, InTo.zero s 0, fun j hj => row_cell _ _ _ _ _ hj, ((Below.refl _ _).alloc (Nat.le_refl _) _).drew⟩
    case round =>
      obtain ⟨k, hk, rfl, hin, hcell, hbel⟩ := hrel
      have HC : Hid (∀ j, j < s.size → wr.cell? ⟨w.heap.size, j, none⟩ = some (.int .u8 (bt s j))) := hcell
      clear hcell hcv
      by_cases hlt : k < s.size
      · have hck := HC.out k hlt
        have X1 : Hid (cls (bt s k) ≠ 0 → InTo s 0 (k + 1)) := fun h => hin.succ h
        have X2 : Hid (cls (bt s k) = 0 → ¬ Plain s) := fun h => not_plain s k hlt h
        obtain ⟨c, hc⟩ : ∃ c, c = bt s k := ⟨_, rfl⟩
        have hz := cls_zero (bt s k)
        rw [← hc] at hck hz
        have HZ : Hid (cls c = 0 ↔ ¬ c = 95 ∧ ¬ (48 ≤ c ∧ c ≤ 57) ∧ ¬ (97 ≤ c ∧ c ≤ 122) ∧ ¬ (65 ≤ c ∧ c ≤ 90)) := hz
        have HCC : Hid (c = bt s k) := hc
        clear hz hc hin
        rcases (show (c = 95 ∨ (97 ≤ c ∧ c ≤ 122) ∨ (65 ≤ c ∧ c ≤ 90) ∨ (48 ≤ c ∧ c ≤ 57)) ∨ (c < 48 ∨ (57 < c ∧ c < 65) ∨ (90 < c ∧ c < 95) ∨ (95 < c ∧ c < 97) ∨ 122 < c) from by omega) with ok | bad
        · have X := X1.out (by rw [← HCC.out]; intro h; have := HZ.out.1 h; omega)
          clear X1 X2 HZ HCC
          rcases ok with rfl | ⟨o1, o2⟩ | ⟨o1, o2⟩ | ⟨o1, o2⟩
          all_goals
            go_wp2
            go_roundw
            case rel => exact ⟨k + 1, by omega, by go_num, X, HC.out, hbel⟩
            case measure => simp [intOf]; omega
        · have X := X2.out (by rw [← HCC.out]; exact HZ.out.2 (by omega))
          have hb : (c != 95) = true := by simp; omega
          clear X1 X2 HZ HCC
          rcases bad with o1 | ⟨o1, o2⟩ | ⟨o1, o2⟩ | ⟨o1, o2⟩ | o1
          all_goals try have q1 : decide (c ≤ 57) = false := decide_eq_false (by omega)
          all_goals try have q2 : decide (c ≤ 90) = false := decide_eq_false (by omega)
          all_goals try have q3 : decide (c ≤ 122) = false := decide_eq_false (by omega)
          all_goals
            go_wp2
            go_ret
            exact ⟨_, rfl, by simp [X], hbel⟩
      · have hke : InTo s 0 s.size := fun j h1 h2 => hin j h1 (by omega)
        have X := plain_of s h0 h64 hd0 hke
        clear hke
        go_wp2
        go_ret
        exact ⟨_, rfl, by simp [X], hbel⟩

theorem zzident_any (s : ByteArray) (w : World) (hs : s.size ≤ 1048576) :
    Calls Try.prog 13 #[.string s] w fun e w' => PPost s w e w' := by
  go_enter Try.func13, Try.ntmps13
  go_wp2_with (go_at_call 21; refine (ident_any _ _ hs).mono ?_; rintro e w' ⟨b, rfl, hb, hbel⟩)
  go_ret
  exact ⟨b, rfl, hb, hbel⟩
end Go.Proofs.Qxb6604024a
