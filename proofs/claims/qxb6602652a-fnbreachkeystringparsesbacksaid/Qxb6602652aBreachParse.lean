import Derived.Test.Qxb6602652aBreachWalks
namespace Go.Proofs.Qxb6602652a
open Go.RowKit

theorem size_list (s : ByteArray) : s.data.toList.length = s.size := by obtain ⟨⟨l⟩⟩ := s; simp [ByteArray.size]
theorem ba_ext {a b : ByteArray} (e : a.data.toList = b.data.toList) : a = b := by obtain ⟨⟨x⟩⟩ := a; obtain ⟨⟨y⟩⟩ := b; simp at e; rw [e]
def bt (s : ByteArray) (j : Nat) : Nat := (s.data.toList.getD j 0).toNat
theorem bt_get (s : ByteArray) (j : Nat) (h : j < s.size) : (s[j]'h).toNat = bt s j := by
  unfold bt
  have : s.data.toList.getD j 0 = s[j]'h := by
    obtain ⟨⟨l⟩⟩ := s
    have h' : j < l.length := by simpa [ByteArray.size] using h
    simp [List.getD_eq_getElem?_getD, List.getElem?_eq_getElem h']; rfl
  rw [this]

/-- no space among the first k bytes -/
def NoSp (l : ByteArray) (k : Nat) : Prop := ∀ j, j < k → bt l j ≠ 32
theorem NoSp.zero (l : ByteArray) : NoSp l 0 := fun j h => absurd h (Nat.not_lt_zero j)
theorem NoSp.succ {l : ByteArray} {k : Nat} (h : NoSp l k) (hk : bt l k ≠ 32) : NoSp l (k + 1) := by
  intro j hj
  by_cases e : j = k
  · subst e; exact hk
  · exact h j (by omega)

/-- what follows the limit -/
def tailL (s : ByteArray) : List UInt8 := if s.size = 0 then [] else forB.data.toList ++ s.data.toList
theorem name_eq (l s : ByteArray) : nameL l s = limB.data.toList ++ (l.data.toList ++ tailL s) := rfl
theorem tail_len (s : ByteArray) : (tailL s).length = if s.size = 0 then 0 else 5 + s.size := by
  unfold tailL; split
  · rfl
  · rw [List.length_append, size_list]; rfl
theorem x_size {x l s : ByteArray} (hx : x.data.toList = nameL l s) : x.size = 6 + l.size + (tailL s).length := by
  rw [← size_list, hx, name_eq, List.length_append, List.length_append, size_list l]
  show 6 + _ = _
  omega
theorem x_head {x l s : ByteArray} (hx : x.data.toList = nameL l s) : x.extract 0 6 = limB := by
  apply ba_ext
  rw [Lib.extract_data, hx, name_eq, List.drop_zero]
  exact List.take_left (l₁ := limB.data.toList)
theorem x_rest {x l s : ByteArray} (hx : x.data.toList = nameL l s) : (x.extract 6 x.size).data.toList = l.data.toList ++ tailL s := by
  rw [Lib.extract_to_end, hx, name_eq]
  exact List.drop_left (l₁ := limB.data.toList)

theorem r_size {R l s : ByteArray} (hR : R.data.toList = l.data.toList ++ tailL s) : R.size = l.size + if s.size = 0 then 0 else 5 + s.size := by
  rw [← size_list, hR, List.length_append, size_list, tail_len]
theorem r_left {R l s : ByteArray} (hR : R.data.toList = l.data.toList ++ tailL s) (k : Nat) (hk : k < l.size) : bt R k = bt l k := by
  unfold bt
  rw [hR, List.getD_eq_getElem?_getD, List.getD_eq_getElem?_getD, List.getElem?_append_left (by rw [size_list]; exact hk)]
theorem r_space {R l s : ByteArray} (hR : R.data.toList = l.data.toList ++ tailL s) (hs : ¬ s.size = 0) : bt R l.size = 32 := by
  unfold bt
  rw [hR, List.getD_eq_getElem?_getD, List.getElem?_append_right (by rw [size_list]; omega), size_list, Nat.sub_self]
  unfold tailL
  rw [if_neg hs]
  rfl
theorem r_lim {R l s : ByteArray} (hR : R.data.toList = l.data.toList ++ tailL s) : R.extract 0 l.size = l := by
  apply ba_ext
  rw [Lib.extract_data, hR, List.drop_zero, Nat.sub_zero, ← size_list l]
  exact List.take_left
theorem r_tail {R l s : ByteArray} (hR : R.data.toList = l.data.toList ++ tailL s) : (R.extract l.size R.size).data.toList = tailL s := by
  rw [Lib.extract_to_end, hR, ← size_list l]
  exact List.drop_left
theorem t_for {T s : ByteArray} (hT : T.data.toList = tailL s) (hs : ¬ s.size = 0) : T.extract 0 5 = forB := by
  apply ba_ext
  rw [Lib.extract_data, hT, List.drop_zero]
  unfold tailL
  rw [if_neg hs]
  exact List.take_left (l₁ := forB.data.toList)
theorem t_sub {T s : ByteArray} (hT : T.data.toList = tailL s) (hs : ¬ s.size = 0) : T.extract 5 T.size = s := by
  apply ba_ext
  rw [Lib.extract_to_end, hT]
  unfold tailL
  rw [if_neg hs]
  exact List.drop_left (l₁ := forB.data.toList)
theorem t_size {T s : ByteArray} (hT : T.data.toList = tailL s) (hs : ¬ s.size = 0) : T.size = 5 + s.size := by
  rw [← size_list, hT, tail_len, if_neg hs]

def ParsePost (w : World) (l s : ByteArray) (e : Ending) (w' : World) : Prop := e = .returned (.tuple #[.string l, .string s, .bool true]) ∧ ∃ n, w' = w.drewN n

theorem parse_ret {a b l s : ByteArray} (h : a = l) (g : b = s) : Ending.returned (.tuple #[.string a, .string b, .bool true]) = .returned (.tuple #[.string l, .string s, .bool true]) := by rw [h, g]

set_option maxHeartbeats 1000000 in
theorem parse_any (x l s : ByteArray) (h : l.size + s.size ≤ 1048576) (hx : x.data.toList = nameL l s) (hl : NoSp l l.size) (w : World) :
    Calls Try.prog 9 #[.string x] w fun e w' => ParsePost w l s e w' := by
  have hsz := x_size hx
  have hhd := x_head hx
  have hrs := x_rest hx
  have htl := tail_len s
  have hx6 : 6 ≤ x.size := by omega
  have hxb : x.size ≤ 2097152 := by rw [hsz, htl]; split <;> omega
  have HX : Hid (x.extract 0 6 = limB) := hhd
  have HR : Hid ((x.extract 6 x.size).data.toList = l.data.toList ++ tailL s) := hrs
  clear hsz hhd hrs hx
  go_enter Try.func9, Try.ntmps9
  go_wp2_with fail
  refine (same_as _ _ HX.out (by show 6 ≤ _; omega) _).mono ?_
  rintro e w' ⟨rfl, q, rfl⟩
  go_wp2
  have HR' := HR.out
  clear HR HX
  generalize x.extract 6 x.size = R at *
  have HR : Hid (R.data.toList = l.data.toList ++ tailL s) := HR'
  have hrz := r_size HR'
  clear HR' htl
  by_cases hs0 : s.size = 0
  · rw [if_pos hs0] at hrz
    have hr1 : R.size ≤ l.size := by omega
    have hr2 : l.size ≤ R.size := by omega
    clear hrz
    go_loop [6] (fun i => ∃ k : Nat, k ≤ l.size ∧ i = .int .i64 k) (fun i => l.size - (intOf i).toNat)
    case atStart => exact ⟨0, by omega, rfl⟩
    case round =>
      obtain ⟨k, hk, rfl⟩ := hrel
      by_cases hlt : k < l.size
      · have hkr : k < R.size := by omega
        have hne : (((R[k]'hkr).toNat : Int) != 32) = true := by
          rw [bt_get, r_left HR.out k hlt]
          have := hl k hlt
          simp; omega
        go_wp2
        go_round
        case rel => exact ⟨k + 1, by omega, by go_num⟩
        case measure => simp [intOf]; omega
      · obtain rfl : k = l.size := by omega
        have ea : R.extract 0 l.size = l := r_lim HR.out
        have EA : Hid (R.extract 0 l.size = l) := ea
        have ES : Hid (({ data := #[] } : ByteArray) = s) := ba_ext (by
          have : s.data.toList.length = 0 := by rw [size_list]; exact hs0
          rw [List.length_eq_zero_iff.1 this])
        clear ea
        go_wp2
        go_ret3
        exact ⟨parse_ret EA.out ES.out, q, rfl⟩
  · rw [if_neg hs0] at hrz
    have hr1 : R.size ≤ l.size + (5 + s.size) := by omega
    have hr2 : l.size + (5 + s.size) ≤ R.size := by omega
    have hs1 : 1 ≤ s.size := by omega
    clear hrz
    go_loop [6] (fun i => ∃ k : Nat, k ≤ l.size ∧ i = .int .i64 k) (fun i => l.size - (intOf i).toNat)
    case atStart => exact ⟨0, by omega, rfl⟩
    case round =>
      obtain ⟨k, hk, rfl⟩ := hrel
      have hkr : k < R.size := by omega
      by_cases hlt : k < l.size
      · have hne : (((R[k]'hkr).toNat : Int) != 32) = true := by
          rw [bt_get, r_left HR.out k hlt]
          have := hl k hlt
          simp; omega
        go_wp2
        go_round
        case rel => exact ⟨k + 1, by omega, by go_num⟩
        case measure => simp [intOf]; omega
      · obtain rfl : k = l.size := by omega
        have hne : (((R[l.size]'hkr).toNat : Int) != 32) = false := by
          rw [bt_get, r_space HR.out hs0]; rfl
        have EA : Hid (R.extract 0 l.size = l) := r_lim HR.out
        have ET : Hid ((R.extract l.size R.size).extract 0 5 = forB) := t_for (r_tail HR.out) hs0
        have ES : Hid ((R.extract l.size R.size).extract 5 (R.size - l.size) = s) := by
          have h1 := t_sub (r_tail HR.out) hs0
          have h2 : (R.extract l.size R.size).size = R.size - l.size := by rw [ByteArray.size_extract]; omega
          rw [h2] at h1
          exact h1
        go_wp2_with fail
        refine (same_as _ forB ET.out (by show 5 ≤ _; omega) _).mono ?_
        rintro e w' ⟨rfl, q', rfl⟩
        go_wp2
        go_quiet (fail)
        rename_i nq
        go_wp2
        go_ret3
        exact ⟨parse_ret EA.out ES.out, q + q' + nq, by simp [World.drewN]; try omega⟩
end Go.Proofs.Qxb6602652a
