import Derived.Test.Qxb6603916aExpPlain
namespace Go.Proofs.Qxb6603916a
open Go.RowKit

theorem bt_append (a b : ByteArray) : (a ++ b).data.toList = a.data.toList ++ b.data.toList := by
  simp [ByteArray.data_append]

/-- what the three cases behind the digits come to: R is what is left of s behind e and 'sg' bytes of a sign -/
theorem tail_no (s R : ByteArray) (sg k : Nat) (h1 : sg + 1 ≤ s.size) (hsg : sg = 0 ∨ (sg = 1 ∧ (bt s 1 = 43 ∨ bt s 1 = 45)))
    (hns : sg = 0 → 2 ≤ s.size → bt s 1 ≠ 43 ∧ bt s 1 ≠ 45) (hR : R.data.toList = s.data.toList.drop (sg + 1)) (hk : k ≤ R.size)
    (hn : ∀ h : k < R.size, digB (R[k]'h).toNat = false) (hbad : k = 0 ∨ k < R.size) : ExpRes s { data := #[] } false := by
  have e1 : R.size = s.size - (sg + 1) := by rw [← size_list, hR, List.length_drop, size_list]
  refine res_no s sg k h1 hsg hns ?_
  by_cases e : k < R.size
  · right
    refine ⟨by omega, ?_⟩
    have := hn e
    rw [bt_get] at this
    unfold bt at this ⊢
    rw [hR] at this
    simpa [List.getD_eq_getElem?_getD] using this
  · left; omega
theorem tail_yes (s R t : ByteArray) (sg k : Nat) (h1 : sg + 1 ≤ s.size) (h0 : bt s 0 = 101 ∨ bt s 0 = 69) (hsg : sg = 0 ∨ (sg = 1 ∧ (bt s 1 = 43 ∨ bt s 1 = 45)))
    (hR : R.data.toList = s.data.toList.drop (sg + 1)) (hk : k ≤ R.size)
    (hd : DigTo R 0 k) (hk0 : 0 < k) (hk1 : R.size ≤ k) (ht : t.data.toList = (s.data.toList.drop 1).take sg)  : ExpRes s ({ data := #[101] } ++ t ++ R.extract 0 k) true := by
  have e1 : R.size = s.size - (sg + 1) := by rw [← size_list, hR, List.length_drop, size_list]
  refine res_yes s _ sg (by omega) h0 hsg ?_ ?_
  · intro j hj hj'
    have hj2 : j - (sg + 1) < R.size := by omega
    have := hd (j - (sg + 1)) hj2 (by omega) (by omega)
    rw [bt_get] at this
    unfold bt at this ⊢
    rw [hR] at this
    simp only [List.getD_eq_getElem?_getD, List.getElem?_drop] at this ⊢
    rw [show sg + 1 + (j - (sg + 1)) = j from by omega] at this
    exact this
  · have e2 : (R.extract 0 k).data.toList = (s.data.toList.drop 1).drop sg := by
      rw [Lib.extract_data, List.drop_zero, List.take_of_length_le (by rw [size_list]; omega), hR, List.drop_drop, Nat.add_comm]
    rw [bt_append, bt_append, ht, e2, List.append_assoc, List.take_append_drop]
    rfl
theorem rdata1 (s : ByteArray) : ((s.extract 1 s.size).extract 1 (s.size - 1)).data.toList = s.data.toList.drop (1 + 1) := by
  rw [Lib.extract_data, Lib.extract_to_end, List.take_of_length_le (by rw [List.length_drop, List.length_drop, size_list]; omega), List.drop_drop]
theorem ext_ne (R : ByteArray) (a b : Nat) (h : a < b) (h' : b ≤ R.size) : (R.extract a b).toList.isEmpty = false := isEmpty_not _ (by rw [ByteArray.size_extract]; omega)
theorem ext_em (R : ByteArray) (a b : Nat) (h : b ≤ a) : (R.extract a b).toList.isEmpty = true := isEmpty_of _ (by rw [ByteArray.size_extract]; omega)
theorem digitsOf_as (X R : ByteArray) (hX : X = R) (w : World) (hs : R.size ≤ 1048576) :
    Calls Try.prog 13 #[.string X] w fun e w' => ∃ k : Nat, k ≤ R.size ∧ DigTo R 0 k ∧ (∀ h : k < R.size, digB (R[k]'h).toNat = false) ∧
      e = .returned (.tuple #[.string (R.extract 0 k), .string (R.extract k R.size)]) ∧ ∃ n, w' = w.drewN n := by
  subst hX; exact digitsOf_any X w (by unfold maxLen; omega)
theorem str_eq {a : ByteArray} {b : ByteArray} {p q : Bool} (h : a = b) (g : p = q) : Ending.returned (.tuple #[.string a, .bool p]) = .returned (.tuple #[.string b, .bool q]) := by rw [h, g]

set_option maxHeartbeats 1000000 in
theorem expOf_any (s : ByteArray) (w : World) (hs : s.size ≤ 1048576) :
    Calls Try.prog 11 #[.string s] w fun e w' => ∃ t ok, e = .returned (.tuple #[.string t, .bool ok]) ∧ ExpRes s t ok ∧ ∃ n, w' = w.drewN n := by
  by_cases h0 : s.size = 0
  · have he := isEmpty_of s h0
    go_enter Try.func11, Try.ntmps11
    go_wp2
    go_ret2
    exact ⟨_, _, rfl, res_empty s h0, 0, rfl⟩
  have he := isEmpty_not s h0
  have hsz : 0 < s.size := by omega
  by_cases c0 : bt s 0 ≠ 101 ∧ bt s 0 ≠ 69
  · have d1 : (((s[0]'hsz).toNat : Int) != 101) = true := by rw [bt_get]; simp; omega
    have d2 : (((s[0]'hsz).toNat : Int) != 69) = true := by rw [bt_get]; simp; omega
    go_enter Try.func11, Try.ntmps11
    go_wp2
    go_ret2
    exact ⟨_, _, rfl, res_head s h0 c0.1 c0.2, 0, rfl⟩
  have c0' : bt s 0 = 101 ∨ bt s 0 = 69 := by omega
  have d0 : ((s[0]'hsz).toNat : Int) = 101 ∨ ((s[0]'hsz).toNat : Int) = 69 := by rw [bt_get]; omega
  clear c0
  by_cases h1 : s.size = 1
  · have hr := isEmpty_of (s.extract 1 s.size) (by simp; omega)
    rcases d0 with d0 | d0
    all_goals
      go_enter Try.func11, Try.ntmps11
      go_wp2_with fail
      go_quiet (fail)
      go_wp2_with fail
      refine (digitsOf_any _ _ (by simp)).mono ?_
      rintro e w' ⟨k, hk, hd, hn, rfl, n, rfl⟩
      obtain rfl : k = 0 := by simpa using hk
      go_wp2
      go_ret2
      exact ⟨_, _, rfl, res_short s h1, _, rfl⟩
  have hr := isEmpty_not (s.extract 1 s.size) (by simp; omega)
  have hr0 : 0 < (s.extract 1 s.size).size := by simp; omega
  have b1 : ((s.extract 1 s.size)[0]'hr0).toNat = bt s 1 := by rw [bt_get, bt_extract _ _ _ _ (by omega)]
  by_cases hg : bt s 1 = 43 ∨ bt s 1 = 45
  · have d1 : (((s.extract 1 s.size)[0]'hr0).toNat : Int) = 43 ∨ (((s.extract 1 s.size)[0]'hr0).toNat : Int) = 45 := by rw [b1]; omega
    clear b1
    have hss := size_list s
    rcases d0 with d0 | d0 <;> rcases d1 with d1 | d1
    all_goals
      go_enter Try.func11, Try.ntmps11
      go_wp2_with fail
      go_quiet (fail)
      go_wp2_with fail
      go_quiet (fail)
      go_wp2_with fail
      obtain ⟨R, hR⟩ : ∃ R, (s.extract 1 s.size).extract 1 (s.size - 1) = R := ⟨_, rfl⟩
      have hRd : Hid (R.data.toList = s.data.toList.drop (1 + 1)) := by
        show R.data.toList = _
        rw [← hR, rdata1]
      have hRm : R.size ≤ 1048576 := by rw [← hR]; simp; omega
      refine (digitsOf_as _ R hR _ hRm).mono ?_
      clear hR
      rintro e w' ⟨k, hk, hd, hn, rfl, n, rfl⟩
      by_cases hk0 : k = 0
      · have e1 : (R.extract 0 k).toList.isEmpty = true := ext_em _ _ _ (by omega)
        have X := tail_no s R 1 k (by omega) (.inr ⟨rfl, hg⟩) (fun h => by omega) hRd.out hk hn (.inl hk0)
        have hkn := hk0
        clear hn hk0
        go_wp2
        go_ret2
        exact ⟨_, _, rfl, X, _, rfl⟩
      · have e1 : (R.extract 0 k).toList.isEmpty = false := ext_ne _ _ _ (by omega) hk
        by_cases hk1 : k < R.size
        · have e2 : (R.extract k R.size).toList.isEmpty = false := ext_ne _ _ _ (by omega) (by omega)
          have X := tail_no s R 1 k (by omega) (.inr ⟨rfl, hg⟩) (fun h => by omega) hRd.out hk hn (.inr hk1)
          clear hn
          go_wp2
          go_ret2
          exact ⟨_, _, rfl, X, _, rfl⟩
        · have e2 : (R.extract k R.size).toList.isEmpty = true := ext_em _ _ _ (by omega)
          have X := tail_yes s R ((s.extract 1 s.size).extract 0 1) 1 k (by omega) c0' (.inr ⟨rfl, hg⟩) hRd.out hk hd (by omega) (by omega) (by rw [Lib.extract_data, Lib.extract_to_end, List.drop_zero])
          clear hn
          go_wp2
          go_ret2
          exact ⟨_, _, str_eq (by simp) rfl, X, _, rfl⟩
  · have d1 : ((((s.extract 1 s.size)[0]'hr0).toNat : Int) == 43) = false := by rw [b1]; simp; omega
    have d2 : ((((s.extract 1 s.size)[0]'hr0).toNat : Int) == 45) = false := by rw [b1]; simp; omega
    clear b1
    have hss := size_list s
    rcases d0 with d0 | d0
    all_goals
      go_enter Try.func11, Try.ntmps11
      go_wp2_with fail
      go_quiet (fail)
      go_wp2_with fail
      obtain ⟨R, hR⟩ : ∃ R, s.extract 1 s.size = R := ⟨_, rfl⟩
      have hRd : Hid (R.data.toList = s.data.toList.drop (0 + 1)) := by
        show R.data.toList = _
        rw [← hR, Lib.extract_to_end]
      have hRm : R.size ≤ 1048576 := by rw [← hR]; simp; omega
      refine (digitsOf_as _ R hR _ hRm).mono ?_
      clear hR
      rintro e w' ⟨k, hk, hd, hn, rfl, n, rfl⟩
      by_cases hk0 : k = 0
      · have e1 : (R.extract 0 k).toList.isEmpty = true := ext_em _ _ _ (by omega)
        have X := tail_no s R 0 k (by omega) (.inl rfl) (fun _ _ => by omega) hRd.out hk hn (.inl hk0)
        have hkn := hk0
        clear hn hk0
        go_wp2
        go_ret2
        exact ⟨_, _, rfl, X, _, rfl⟩
      · have e1 : (R.extract 0 k).toList.isEmpty = false := ext_ne _ _ _ (by omega) hk
        by_cases hk1 : k < R.size
        · have e2 : (R.extract k R.size).toList.isEmpty = false := ext_ne _ _ _ (by omega) (by omega)
          have X := tail_no s R 0 k (by omega) (.inl rfl) (fun _ _ => by omega) hRd.out hk hn (.inr hk1)
          clear hn
          go_wp2
          go_ret2
          exact ⟨_, _, rfl, X, _, rfl⟩
        · have e2 : (R.extract k R.size).toList.isEmpty = true := ext_em _ _ _ (by omega)
          have X := tail_yes s R { data := #[] } 0 k (by omega) c0' (.inl rfl) hRd.out hk hd (by omega) (by omega) (by rfl)
          clear hn
          go_wp2
          go_ret2
          exact ⟨_, _, str_eq (by simp) rfl, X, _, rfl⟩

theorem zzExpOf_any (s : ByteArray) (w : World) (hs : s.size ≤ 1048576) :
    Calls Try.prog 8 #[.string s] w fun e w' => ∃ t ok, e = .returned (.tuple #[.string t, .bool ok]) ∧ ExpRes s t ok ∧ ∃ n, w' = w.drewN n := by
  go_enter Try.func8, Try.ntmps8
  go_wp2_with (go_at_call 11; refine (expOf_any _ _ hs).mono ?_; rintro e w' ⟨t, ok, rfl, hres, n, rfl⟩)
  go_ret2
  exact ⟨t, ok, rfl, hres, n, rfl⟩
end Go.Proofs.Qxb6603916a
