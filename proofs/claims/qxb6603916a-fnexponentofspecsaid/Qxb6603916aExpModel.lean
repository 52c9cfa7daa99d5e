import Derived.Test.Qxb6603916aExpPlain
import Derived.Laws.BytesArg
import Derived.Laws.OwnMore
import Derived.Maps.AppendAt
namespace Go.Proofs.Qxb6603916a
open Go.RowKit

theorem Try.info5 : (Try.prog.info? 5).map (fun i => (i.zero, i.size, i.bytes)) = some (some (.int .u8 0), 1, 1) := by kernel_rfl

theorem dig_yes (a : Int) (h0 : 48 ≤ a) (h1 : a ≤ 57) (w : World) :
    Calls Try.prog 12 #[.int .u8 a] w fun e w' => e = .returned (.bool true) ∧ w = w' := by
  go_enter Try.func12, Try.ntmps12
  go_wp2
  go_ret
  exact ⟨rfl, rfl⟩
theorem dig_no (a : Int) (h : a < 48 ∨ 57 < a) (w : World) :
    Calls Try.prog 12 #[.int .u8 a] w fun e w' => e = .returned (.bool false) ∧ w = w' := by
  rcases h with h | h
  all_goals
    go_enter Try.func12, Try.ntmps12
    go_wp2
    go_ret
    exact ⟨by simp; try omega, rfl⟩

/-- the bytes from 1 on, below k, are digits, but a sign at 1 -/
def OkTo (s : ByteArray) (k : Nat) : Prop := ∀ j, 1 ≤ j → j < k → digB (bt s j) = true ∨ (j = 1 ∧ (bt s 1 = 43 ∨ bt s 1 = 45))
theorem OkTo.succ {s : ByteArray} {k : Nat} (h : OkTo s k) (hk : digB (bt s k) = true ∨ (k = 1 ∧ (bt s 1 = 43 ∨ bt s 1 = 45))) : OkTo s (k + 1) := by
  intro j h1 h2
  by_cases e : j = k
  · subst e; exact hk
  · exact h j h1 (by omega)

/-- the first k bytes of e and what follows the first byte of s, as cells -/
def eCells (s : ByteArray) (k : Nat) : List Value := ((101 :: s.data.toList.drop 1).take k).map fun c => Value.int .u8 (c.toNat : Int)
theorem eCells_succ (s : ByteArray) (k : Nat) (h1 : 1 ≤ k) (h : k < s.size) : eCells s (k + 1) = eCells s k ++ [.int .u8 ((s[k]'h).toNat : Int)] := by
  unfold eCells
  obtain ⟨n, rfl⟩ : ∃ n, k = n + 1 := ⟨k - 1, by omega⟩
  have hl := size_list s
  have e : (s.data.toList.drop 1).take (n + 1) = (s.data.toList.drop 1).take n ++ [s[n + 1]] := by
    rw [List.take_succ_eq_append_getElem (by simp; omega)]
    simp
    rfl
  simp only [List.take_succ_cons, List.map_cons, e, List.map_append, List.map_nil, List.cons_append]

/-- the text as numbers -/
def eNums (s : ByteArray) : List Int := (101 :: s.data.toList.drop 1).map fun c => (c.toNat : Int)
theorem eNums_length (s : ByteArray) (h : 0 < s.size) : (eNums s).length = s.size := by
  unfold eNums
  have hl := size_list s
  simp; omega
theorem eNums_get (s : ByteArray) (j : Nat) : (eNums s).getD j 0 = (((101 :: s.data.toList.drop 1).getD j 0).toNat : Int) := by
  unfold eNums
  rw [List.getD_eq_getElem?_getD, List.getD_eq_getElem?_getD, List.getElem?_map]
  cases (101 :: s.data.toList.drop 1)[j]? <;> rfl
theorem eNums_text (s : ByteArray) : (strOfNums (eNums s)).data.toList = 101 :: s.data.toList.drop 1 := by
  rw [strOfNums_data]
  unfold eNums
  rw [List.map_map]
  exact List.map_id'' (fun c => by simp) _

def MPost (s : ByteArray) (w : World) (e : Ending) (w' : World) : Prop := ∃ t ok, e = .returned (.tuple #[.string t, .bool ok]) ∧ ExpRes s t ok ∧ Below w.heap.size w w'

theorem eCells_length (s : ByteArray) (k : Nat) (h1 : k ≤ s.size) (h2 : 1 ≤ s.size) : (eCells s k).length = k := by
  unfold eCells
  have hl := size_list s
  simp; omega

theorem eCells_get (s : ByteArray) (j : Nat) (h : j < s.size) : (eCells s s.size)[j]? = some (.int .u8 (((101 :: s.data.toList.drop 1).getD j 0).toNat : Int)) := by
  unfold eCells
  have hl := size_list s
  have hlen : (101 :: s.data.toList.drop 1).length = s.size := by simp; omega
  rw [List.take_of_length_le (by omega), List.getElem?_map, List.getD_eq_getElem?_getD, List.getElem?_eq_getElem (show j < (101 :: s.data.toList.drop 1).length by omega)]
  rfl

set_option maxHeartbeats 1000000 in
theorem model_any (s : ByteArray) (w : World) (hs : s.size ≤ 1048576) :
    Calls Try.prog 9 #[.string s] w fun e w' => MPost s w e w' := by
  by_cases h0 : s.size = 0
  · go_enter Try.func9, Try.ntmps9
    go_wp2
    go_ret2
    exact ⟨_, _, rfl, res_empty s h0, Below.refl _ _⟩
  have hsz : 0 < s.size := by omega
  by_cases h1 : s.size < 2
  · go_enter Try.func9, Try.ntmps9
    go_wp2
    go_ret2
    exact ⟨_, _, rfl, res_short s (by omega), Below.refl _ _⟩
  by_cases c0 : bt s 0 ≠ 101 ∧ bt s 0 ≠ 69
  · have d1 : (((s[0]'hsz).toNat : Int) != 101) = true := by rw [bt_get]; simp; omega
    have d2 : (((s[0]'hsz).toNat : Int) != 69) = true := by rw [bt_get]; simp; omega
    go_enter Try.func9, Try.ntmps9
    go_wp2
    go_ret2
    exact ⟨_, _, rfl, res_head s h0 c0.1 c0.2, Below.refl _ _⟩
  have c0' : bt s 0 = 101 ∨ bt s 0 = 69 := by omega
  have d0 : ((s[0]'hsz).toNat : Int) = 101 ∨ ((s[0]'hsz).toNat : Int) = 69 := by rw [bt_get]; omega
  clear c0
  have hls : s.size - 1 < s.size := by omega
  by_cases dl : digB (bt s (s.size - 1)) = false
  · have dl' : ((s[s.size - 1]'hls).toNat : Int) < 48 ∨ 57 < ((s[s.size - 1]'hls).toNat : Int) := by
      rw [bt_get]; simp [digB] at dl; omega
    rcases d0 with d0 | d0
    all_goals
      go_enter Try.func9, Try.ntmps9
      go_wp2_with (go_at_call 12; refine (dig_no _ dl' _).mono ?_; rintro e w' ⟨rfl, rfl⟩)
      go_ret2
      exact ⟨_, _, rfl, res_last s h0 dl, Below.refl _ _⟩
  have dl1 : digB (bt s (s.size - 1)) = true := by simpa using dl
  have dy : 48 ≤ ((s[s.size - 1]'hls).toNat : Int) ∧ ((s[s.size - 1]'hls).toNat : Int) ≤ 57 := by
    rw [bt_get]; simp [digB] at dl1; omega
  obtain ⟨dy1, dy2⟩ := dy
  obtain ⟨i0, hi, hz0, hz1, hz2⟩ := info_parts Try.info5
  have hAcc : Hid (∀ k, k = s.size → OkTo s k → Acc s) := by
    intro k e h
    subst e
    exact .inr ⟨by omega, c0', dl1, h⟩
  clear dl dl1
  rcases d0 with d0 | d0
  all_goals
    go_enter Try.func9, Try.ntmps9
    go_wp2_with (go_at_call 12; refine (dig_yes _ dy1 dy2 _).mono ?_; rintro e w' ⟨rfl, rfl⟩)
    go_loop [4] (fun i => ∃ k : Nat, 1 ≤ k ∧ k ≤ s.size ∧ i = .int .i64 k ∧ OkTo s k) (fun i => s.size - (intOf i).toNat)
    case atStart => exact ⟨1, by omega, by omega, rfl, fun j h1 h2 => by omega⟩
    case round =>
      obtain ⟨k, hk1, hk, rfl, hok⟩ := hrel
      by_cases hlt : k < s.size
      · by_cases hd : digB (bt s k) = true
        · have e1 : 48 ≤ ((s[k]'hlt).toNat : Int) ∧ ((s[k]'hlt).toNat : Int) ≤ 57 := by
            rw [bt_get]; simp [digB] at hd; omega
          obtain ⟨e1, e2⟩ := e1
          have X := hok.succ (.inl hd)
          clear hd
          go_wp2_with (go_at_call 12; refine (dig_yes _ e1 e2 _).mono ?_; rintro e w' ⟨rfl, rfl⟩)
          go_round
          case rel => exact ⟨k + 1, by omega, by omega, by go_num, X⟩
          case measure => simp [intOf]; omega
        · have e1 : ((s[k]'hlt).toNat : Int) < 48 ∨ 57 < ((s[k]'hlt).toNat : Int) := by
            rw [bt_get]; simp [digB] at hd; omega
          have hd' : digB (bt s k) = false := by simpa using hd
          clear hd
          by_cases hk' : k = 1
          · subst hk'
            by_cases hg : bt s 1 = 43 ∨ bt s 1 = 45
            · have X := hok.succ (.inr ⟨rfl, hg⟩)
              have e2 : ((s[1]'hlt).toNat : Int) = 43 ∨ ((s[1]'hlt).toNat : Int) = 45 := by rw [bt_get]; omega
              clear hd' hg
              rcases e2 with e2 | e2
              all_goals
                go_wp2_with (go_at_call 12; refine (dig_no _ (by omega) _).mono ?_; rintro e w' ⟨rfl, rfl⟩)
                go_round
                case rel => exact ⟨1 + 1, by omega, by omega, by go_num, X⟩
                case measure => simp [intOf]; omega
            · have X := res_mid s 1 hk1 hlt hd' (by omega)
              have e2 : (((s[1]'hlt).toNat : Int) == 43) = false := by rw [bt_get]; simp; omega
              have e3 : (((s[1]'hlt).toNat : Int) == 45) = false := by rw [bt_get]; simp; omega
              clear hd' hg
              go_wp2_with (go_at_call 12; refine (dig_no _ e1 _).mono ?_; rintro e w' ⟨rfl, rfl⟩)
              go_ret2
              exact ⟨_, _, rfl, X, Below.refl _ _⟩
          · have X := res_mid s k hk1 hlt hd' (by omega)
            have e2 : (((k : Nat) : Int) == 1) = false := by simp; omega
            clear hd'
            go_wp2_with (go_at_call 12; refine (dig_no _ e1 _).mono ?_; rintro e w' ⟨rfl, rfl⟩)
            go_ret2
            exact ⟨_, _, rfl, X, Below.refl _ _⟩
      · have hke : k = s.size := by omega
        have hA := hAcc.out k hke hok
        clear hke hAcc hok
        go_wp2_with (first | (at_make; refine wpList_make_own _ rfl (.const (.int .i64 0)) (.tmp 57) 28 rfl w.heap.size 5 i0 (.int .u8 0) 1 Try.underlying28 hi hz0 hz1 _ _ _ s.size rfl rfl rfl (by rw [hz2]; omega) (by unfold maxLen; omega) (Nat.le_refl _) ?_; intro w1 hown1 hgrow1) | (at_builtin; refine wpList_append_fits _ rfl (.tmp 59) (.tmp 60) 28 rfl w.heap.size 5 i0 1 Try.underlying28 hi hz1 w.heap.size 0 s.size [] rfl (hown1.alloc _) ⟨w1.heap.size, 0, none⟩ 1 1 [.int .u8 101] rfl rfl (cell_one_new _ _ _) (by simp [Value.oneCell']) (by omega) ?_; intro w2 hown2 hgrow2))
        have hb2 : Below w.heap.size w w2 := (((Below.refl _ _).grown hgrow1 (Nat.le_refl _) (fun k h => by cases h)).alloc hgrow1.size _).grown hgrow2 (by have := hgrow1.size; simp; omega) (fun k h => by cases h; exact Nat.le_refl _)
        have hown2' : w2.ownsRow w.heap.size 5 1 (.slice (some ⟨w.heap.size, 0, none⟩) 1 s.size) 1 (eCells s 1) := by simpa [eCells] using hown2
        clear hown1 hgrow1 hown2 hgrow2
        go_loopw [5, 6] (fun v i wr => ∃ m : Nat, 1 ≤ m ∧ m ≤ s.size ∧ i = .int .i64 m ∧ v = .slice (some ⟨w.heap.size, 0, none⟩) m s.size ∧ wr.ownsRow w.heap.size 5 1 (.slice (some ⟨w.heap.size, 0, none⟩) m s.size) m (eCells s m) ∧ Below w.heap.size w wr) (fun _ i _ => s.size - (intOf i).toNat)
        case atStart => exact ⟨1, by omega, by omega, rfl, rfl, hown2', hb2⟩
        case round =>
          clear hown2' hb2
          obtain ⟨m, hm1, hm2, rfl, rfl, hown, hbel⟩ := hrel
          by_cases hm : m < s.size
          · go_wp2_with (at_builtin; refine wpList_append_fits _ rfl (.tmp 68) (.tmp 72) 28 rfl w.heap.size 5 i0 1 Try.underlying28 hi hz1 w.heap.size m s.size (eCells s m) rfl (hown.alloc _) ⟨wr.heap.size, 0, none⟩ 1 1 [.int .u8 ((s[m]'hm).toNat : Int)] rfl rfl (cell_one_new _ _ _) (by simp [Value.oneCell']) (by omega) ?_; intro w3 hown3 hgrow3)
            have hsz3 := hbel.size
            go_roundw
            case rel => exact ⟨m + 1, by omega, by omega, by go_num, rfl, by rw [eCells_succ s m hm1 hm]; exact hown3, (hbel.alloc hsz3 _).grown hgrow3 (by simp; omega) (fun k h => by cases h; exact Nat.le_refl _)⟩
            case measure => simp [intOf]; omega
          · obtain rfl : m = s.size := by omega
            have hconv := run_convert_bytes_arg (P := Try.prog) wr 28 5 Try.underlying28 Try.underlying5 w.heap.size 0 s.size s.size (eNums s) (eNums_length s hsz) (fun i hi' => by
              rw [Nat.zero_add, hown.cellAt i (by omega), eCells_get s i hi', eNums_get]) 9 Try.underlying9
            go_wp2
            go_ret2
            exact ⟨_, _, rfl, .inl ⟨rfl, hA, by rw [eNums_text, if_neg h0]⟩, hbel⟩
end Go.Proofs.Qxb6603916a
