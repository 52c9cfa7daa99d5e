import Derived.Test.Qxb6603916aExpWalks
import Derived.Lib.Strings
import Derived.Lib.IndexBytes
namespace Go.Proofs.Qxb6603916a
open Go.RowKit

theorem isEmpty_of (s : ByteArray) (h : s.size = 0) : s.toList.isEmpty = true := by
  rw [Lib.toList_data]; obtain ⟨⟨l⟩⟩ := s; simp [ByteArray.size] at h; simp [h]
theorem isEmpty_not (s : ByteArray) (h : s.size ≠ 0) : s.toList.isEmpty = false := by
  rw [Lib.toList_data]; obtain ⟨⟨l⟩⟩ := s; simp [ByteArray.size] at h; simp [h]

theorem size_list (s : ByteArray) : s.data.toList.length = s.size := by obtain ⟨⟨l⟩⟩ := s; simp [ByteArray.size]

/-- the byte at j as a number; 0 beyond the end -/
def bt (s : ByteArray) (j : Nat) : Nat := (s.data.toList.getD j 0).toNat
theorem bt_get (s : ByteArray) (j : Nat) (h : j < s.size) : (s[j]'h).toNat = bt s j := by
  unfold bt
  have : s.data.toList.getD j 0 = s[j]'h := by
    obtain ⟨⟨l⟩⟩ := s
    have h' : j < l.length := by simpa [ByteArray.size] using h
    simp [List.getD_eq_getElem?_getD, List.getElem?_eq_getElem h']; rfl
  rw [this]
theorem bt_extract (s : ByteArray) (a b j : Nat) (h : a + j < b) : bt (s.extract a b) j = bt s (a + j) := by
  unfold bt
  rw [Lib.extract_data, List.getD_eq_getElem?_getD, List.getD_eq_getElem?_getD, List.getElem?_take, if_pos (by omega), List.getElem?_drop]

def Acc (s : ByteArray) : Prop := s.size = 0 ∨ (2 ≤ s.size ∧ (bt s 0 = 101 ∨ bt s 0 = 69) ∧ digB (bt s (s.size - 1)) = true ∧ ∀ j, 1 ≤ j → j < s.size → digB (bt s j) = true ∨ (j = 1 ∧ (bt s 1 = 43 ∨ bt s 1 = 45)))

def ExpRes (s t : ByteArray) (ok : Bool) : Prop :=
  (ok = true ∧ Acc s ∧ t.data.toList = (if s.size = 0 then [] else 101 :: s.data.toList.drop 1)) ∨ (ok = false ∧ ¬ Acc s ∧ t.data.toList = [])

theorem ExpRes.unique {s t t' : ByteArray} {ok ok' : Bool} (h : ExpRes s t ok) (h' : ExpRes s t' ok') : t = t' ∧ ok = ok' := by
  have ext : ∀ {a b : ByteArray}, a.data.toList = b.data.toList → a = b := by
    intro a b e; obtain ⟨⟨x⟩⟩ := a; obtain ⟨⟨y⟩⟩ := b; simp at e; rw [e]
  rcases h with ⟨h1, h2, h3⟩ | ⟨h1, h2, h3⟩ <;> rcases h' with ⟨g1, g2, g3⟩ | ⟨g1, g2, g3⟩
  · exact ⟨ext (h3.trans g3.symm), h1.trans g1.symm⟩
  · exact absurd h2 g2
  · exact absurd g2 h2
  · exact ⟨ext (h3.trans g3.symm), h1.trans g1.symm⟩

theorem res_empty (s : ByteArray) (h : s.size = 0) : ExpRes s { data := #[] } true := .inl ⟨rfl, .inl h, by simp [h]⟩
theorem res_head (s : ByteArray) (h : s.size ≠ 0) (h1 : bt s 0 ≠ 101) (h2 : bt s 0 ≠ 69) : ExpRes s { data := #[] } false := by
  refine .inr ⟨rfl, ?_, rfl⟩
  rintro (h' | ⟨_, h', _⟩) <;> omega
theorem res_last (s : ByteArray) (h : s.size ≠ 0) (h1 : digB (bt s (s.size - 1)) = false) : ExpRes s { data := #[] } false := by
  refine .inr ⟨rfl, ?_, rfl⟩
  rintro (h' | ⟨_, _, h', _⟩)
  · omega
  · rw [h1] at h'; cases h'
theorem res_short (s : ByteArray) (h : s.size = 1) : ExpRes s { data := #[] } false := by
  refine .inr ⟨rfl, ?_, rfl⟩
  rintro (h' | ⟨h', _⟩) <;> omega
theorem res_mid (s : ByteArray) (j : Nat) (h1 : 1 ≤ j) (h2 : j < s.size) (h3 : digB (bt s j) = false) (h4 : ¬ (j = 1 ∧ (bt s 1 = 43 ∨ bt s 1 = 45))) : ExpRes s { data := #[] } false := by
  refine .inr ⟨rfl, ?_, rfl⟩
  rintro (h' | ⟨_, _, _, h'⟩)
  · omega
  · rcases h' j h1 h2 with h | h
    · rw [h3] at h; cases h
    · exact h4 h

/-- the reader's end: behind e and 'sg' bytes of a sign, k digits -/
theorem res_no (s : ByteArray) (sg k : Nat) (_h1 : sg + 1 ≤ s.size) (hsg : sg = 0 ∨ (sg = 1 ∧ (bt s 1 = 43 ∨ bt s 1 = 45)))
    (hns : sg = 0 → 2 ≤ s.size → bt s 1 ≠ 43 ∧ bt s 1 ≠ 45)
    (hbad : (k = 0 ∧ s.size = sg + 1) ∨ (sg + 1 + k < s.size ∧ digB (bt s (sg + 1 + k)) = false)) : ExpRes s { data := #[] } false := by
  rcases hbad with ⟨h, h'⟩ | ⟨h, h'⟩
  · rcases hsg with g | ⟨g, g'⟩
    · exact res_short s (by omega)
    · refine res_last s (by omega) ?_
      rw [show s.size - 1 = 1 from by omega]
      rcases g' with e | e <;> rw [e] <;> rfl
  · refine res_mid s (sg + 1 + k) (by omega) h h' ?_
    rintro ⟨e, e'⟩
    have : sg = 0 := by omega
    have := hns this (by omega)
    omega
theorem res_yes (s t : ByteArray) (sg : Nat) (h1 : sg + 1 < s.size) (h0 : bt s 0 = 101 ∨ bt s 0 = 69) (hsg : sg = 0 ∨ (sg = 1 ∧ (bt s 1 = 43 ∨ bt s 1 = 45)))
    (hd : ∀ j, sg + 1 ≤ j → j < s.size → digB (bt s j) = true) (ht : t.data.toList = 101 :: s.data.toList.drop 1) : ExpRes s t true := by
  refine .inl ⟨rfl, .inr ⟨by omega, h0, hd _ (by omega) (by omega), fun j hj hj' => ?_⟩, by rw [if_neg (by omega), ht]⟩
  by_cases e : sg + 1 ≤ j
  · exact .inl (hd j e hj')
  · right
    rcases hsg with g | ⟨g, g'⟩
    · omega
    · exact ⟨by omega, g'⟩
end Go.Proofs.Qxb6603916a
