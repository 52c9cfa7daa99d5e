/- 'Rows.FnChildRangesOwnTheirCellKeysSaid' proved: the guide's frame for a law, typed for two slices of bytes, three integers and a slice of slices of bytes. -/
import Derived.Test.Qxb6604034aChildLaw
import Derived.WalkKit
import Derived.ProofKit
import Derived.OpenShut
import Derived.ShutString
import Derived.ChangeOld
import Derived.Below
import Derived.Deep.Matrix
namespace Go.Proofs.Qxb6604034a.fnChildRangesOwnTheirCellKeys
open Go.ChangeShapes Go.WideShapes Go.ChangeAt Go.RowKit
set_option linter.unusedVariables false

theorem own : ownKnob Try.prog.godebug = none := by kernel_rfl
theorem laidOut : laidOutB Try.prog = true := by kernel_rfl
theorem cells5 : Try.prog.cellsOf 5 = 1 := by kernel_rfl
theorem cells22 : Try.prog.cellsOf 22 = 1 := by kernel_rfl

/-- a slice of bytes that came in -/
theorem bs_of {H : Type} {enc : TypeId × Value → H} {W : World} {held : Bool} {a0 : Option Addr} {len cap fuel : Nat} {x : DataW H × List MemPlace}
    (hf : DataW.trod enc Try.prog W 0 (fun _ => true) held fuel 22 (Value.slice a0 len cap).cells.toList = some x) : ∃ k : KD, k.n = len ∧ Bs W 0 W.heap.size false k a0 := by
  rcases open_ints Try.underlying22 Try.underlying5 cells5 hf with ⟨hcs, _⟩ | ⟨x, l, c, zs, hcs, _, hl, hm, hz, _, hcell, hwz⟩
  · simp [Value.cells] at hcs
    obtain ⟨rfl, rfl, rfl⟩ := hcs
    exact ⟨⟨true, 0, fun _ => 0⟩, rfl, rfl, (fun _ => rfl), fun h => absurd h (Nat.lt_irrefl _)⟩
  · simp [Value.cells] at hcs
    obtain ⟨rfl, rfl, rfl⟩ := hcs
    refine ⟨⟨false, len, fun j => zs.getD j 0⟩, rfl, rfl, (fun h => by cases h), fun h => ?_⟩
    simp only [if_true] at hz
    have h' : 0 < len := h
    obtain ⟨b, off, spot⟩ := x
    have hspot : spot = none := by simpa [Addr.add] using World.cell?_spot (hcell 0 (by omega))
    subst hspot
    have hc : ∀ j, j < len → W.cell? ⟨b, off + j, none⟩ = some (.int .u8 (zs.getD j 0)) := fun j hj => by rw [← add_plain]; exact hcell j (by omega)
    exact ⟨b, off, rfl, Nat.zero_le _, World.block_lt_of_cell? W _ (hc 0 h'), hc, fun h => by cases h⟩

/-- a slice of slices of bytes that came in -/
theorem ks_of {H : Type} {enc : TypeId × Value → H} {W : World} {held : Bool} {a0 : Option Addr} {len cap fuel : Nat} {x : DataW H × List MemPlace}
    (hf : DataW.trod enc Try.prog W 0 (fun _ => true) held fuel 24 (Value.slice a0 len cap).cells.toList = some x) : ∃ K : Nat → KD, Ks W 0 W.heap.size false K len a0 := by
  rcases Deep.open_int_rows Try.underlying24 Try.underlying22 Try.underlying5 cells22 cells5 hf with ⟨hcs, _⟩ | ⟨a, l, c, A, L, C, Z, hcs, _, hl, hm, _, hc⟩
  · simp [Value.cells] at hcs
    obtain ⟨rfl, rfl, rfl⟩ := hcs
    exact ⟨fun _ => ⟨true, 0, fun _ => 0⟩, (fun _ => rfl), fun h => absurd h (Nat.lt_irrefl _)⟩
  · simp [Value.cells] at hcs
    obtain ⟨rfl, rfl, rfl⟩ := hcs
    refine ⟨fun j => ⟨(A j).isNone, L j, fun i => (Z j).getD i 0⟩, (fun h => by cases h), fun h => ?_⟩
    obtain ⟨b, off, spot⟩ := a
    have hspot : spot = none := by simpa [Addr.add] using World.cell?_spot (hc 0 (by omega)).1
    subst hspot
    have hc0 : ∀ j, j < len → W.cell? ⟨b, off + j, none⟩ = some (.slice (A j) (L j) (C j)) := fun j hj => by rw [← add_plain]; exact (hc j (by omega)).1
    refine ⟨b, off, rfl, Nat.zero_le _, World.block_lt_of_cell? W _ (hc0 0 h), A, C, fun j hj => ⟨hc0 j hj, rfl, fun hn => ?_, fun hn => ?_⟩⟩
    · obtain ⟨_, h1, _, _, _, h5, _⟩ := hc j (by omega)
      have : C j = 0 := h5 (by simpa using hn)
      show L j = 0
      omega
    · obtain ⟨_, h1, _, _, _, h5, h6⟩ := hc j (by omega)
      have hn' : 0 < L j := hn
      cases hA : A j with
      | none => have := h5 hA; omega
      | some a' =>
        obtain ⟨_, hc'⟩ := h6 a' hA
        obtain ⟨b', off', spot'⟩ := a'
        have hspot' : spot' = none := by simpa [Addr.add] using World.cell?_spot (hc' 0 (by omega))
        subst hspot'
        have hcc : ∀ i, i < L j → W.cell? ⟨b', off' + i, none⟩ = some (.int .u8 ((Z j).getD i 0)) := fun i hi => by rw [← add_plain]; exact hc' i (by omega)
        exact ⟨b', off', rfl, Nat.zero_le _, World.block_lt_of_cell? W _ (hcc 0 hn'), hcc, fun h => by cases h⟩

set_option maxRecDepth 100000 in
theorem lifted (os : Os) (started : os.Started) (H : Type) (enc : TypeId × Value → H) :
    ReturnsInHanded {} Try.checked os 3 .any (Rows.fnChildRangesOwnTheirCellKeysSpec.pre6 enc Try.prog Try.f3 Rows.fnChildRangesOwnTheirCellKeysRow.domain false) (Rows.fnChildRangesOwnTheirCellKeysSpec.post enc Try.prog Try.f3 false true false false) := by
  refine returnsInHanded_of_change (C := Try.checked) own started (by kernel_rfl) Try.func3
    (ChangeSpec.witness6 (enc := enc) (C := Try.checked) false ⟨#[], #[.slice none 0 0, .slice none 0 0, .int .u64 0, .int .i64 0, .int .u64 0, .slice none 0 0], []⟩ 8 (by kernel_rfl) (by kernel_rfl) (by kernel_rfl) (by kernel_rfl)) ?_
  intro W base args ds gs before hval0 hW hcnd _
  have hval : ∀ (j : Nat) t v, Try.f3.params[j]? = some t → args[j]? = some v → Value.okWide Try.prog W .any base t v := hval0
  have hW' := hW
  obtain ⟨p, q, hA0, hV, rfl, hfz, hnd⟩ := hW
  have hA : DataW.TrodAll enc Try.prog W 0 (fun _ => true) true Try.f3.params.toList args.toList ds p := hA0
  rw [Try.params3] at hA hval
  obtain ⟨v0, vs0, d0, ds0, p0, q0, hargs, rfl, rfl, h0, r0⟩ := trodAll_cons hA
  obtain ⟨v1, vs1, d1, ds1, p1, q1, rfl, rfl, rfl, h1, r1⟩ := trodAll_cons r0
  obtain ⟨v2, vs2, d2, ds2, p2, q2, rfl, rfl, rfl, h2, r2⟩ := trodAll_cons r1
  obtain ⟨v3, vs3, d3, ds3, p3, q3, rfl, rfl, rfl, h3, r3⟩ := trodAll_cons r2
  obtain ⟨v4, vs4, d4, ds4, p4, q4, rfl, rfl, rfl, h4, r4⟩ := trodAll_cons r3
  obtain ⟨v5, vs5, d5, ds5, p5, q5, rfl, rfl, rfl, h5, r5⟩ := trodAll_cons r4
  obtain ⟨rfl, rfl, rfl⟩ := trodAll_nil r5
  obtain rfl : args = #[v0, v1, v2, v3, v4, v5] := by cases args; simp_all
  obtain ⟨rfl, rfl⟩ := trodVars_none hV
  obtain ⟨a0, len0, cap0, rfl⟩ := okWide_slice Try.underlying22 (hval 0 22 v0 rfl rfl)
  obtain ⟨a1, len1, cap1, rfl⟩ := okWide_slice Try.underlying22 (hval 1 22 v1 rfl rfl)
  obtain ⟨i2, rfl, rfl, rfl, w2⟩ := open_int Try.underlying23 (hval 2 23 v2 rfl rfl) h2
  obtain ⟨i3, rfl, rfl, rfl, w3⟩ := open_int Try.underlying3 (hval 3 3 v3 rfl rfl) h3
  obtain ⟨i4, rfl, rfl, rfl, w4⟩ := open_int Try.underlying23 (hval 4 23 v4 rfl rfl) h4
  obtain ⟨a5, len5, cap5, rfl⟩ := okWide_slice Try.underlying24 (hval 5 24 v5 rfl rfl)
  have k0 := h0
  have k1 := h1
  have k5 := h5
  have lt0 : ∀ x ∈ p0, x.block < W.heap.size := by obtain ⟨m, hm⟩ := k0; exact DataW.trod_lt m _ _ _ hm
  have lt1 : ∀ x ∈ p1, x.block < W.heap.size := by obtain ⟨m, hm⟩ := k1; exact DataW.trod_lt m _ _ _ hm
  have lt5 : ∀ x ∈ p5, x.block < W.heap.size := by obtain ⟨m, hm⟩ := k5; exact DataW.trod_lt m _ _ _ hm
  obtain ⟨K0, e0, b0⟩ : ∃ k : KD, k.n = len0 ∧ Bs W 0 W.heap.size false k a0 := by obtain ⟨fuel, hf⟩ := h0; exact bs_of hf
  obtain ⟨K1, e1, b1⟩ : ∃ k : KD, k.n = len1 ∧ Bs W 0 W.heap.size false k a1 := by obtain ⟨fuel, hf⟩ := h1; exact bs_of hf
  obtain ⟨K, hK⟩ : ∃ K : Nat → KD, Ks W 0 W.heap.size false K len5 a5 := by obtain ⟨fuel, hf⟩ := h5; exact ks_of hf
  subst e0
  subst e1
  clear hA0 hval0
  refine (childLaw_any a0 a1 a5 cap0 cap1 cap5 len5 i2 i3 i4 K0 K1 K W b0 b1 hK).mono fun e W' ⟨he, bel⟩ => ?_
  subst he
  exact ⟨_, rfl, _, _, _, [], _, [], hW', trodAll_mk1 (shut_bool Try.underlying4 _),
    (trodAll_cons_mk (Below.trod laidOut (by kernel_rfl) (of_decide_eq_true (by kernel_rfl)) k0 bel lt0)
      (trodAll_cons_mk (Below.trod laidOut (by kernel_rfl) (of_decide_eq_true (by kernel_rfl)) k1 bel lt1)
        (trodAll_cons_mk (shut_int Try.underlying23 w2) (trodAll_cons_mk (shut_int Try.underlying3 w3) (trodAll_cons_mk (shut_int Try.underlying23 w4)
          (trodAll_cons_mk (Below.trod laidOut (by kernel_rfl) (of_decide_eq_true (by kernel_rfl)) k5 bel lt5) trodAll_mk0)))))), rfl, bel.frame _, fun h => by cases h⟩

theorem over : Rows.fnChildRangesOwnTheirCellKeysRow.holds Try.pinned (OpenSpec.ofChange Rows.fnChildRangesOwnTheirCellKeysSpec) :=
  OpenClaim.holds_of_wide 3 Try.f3 rfl rfl rfl rfl rfl rfl rfl ⟨rfl, rfl, rfl, rfl, rfl⟩ rfl rfl rfl rfl rfl (by kernel_rfl) Try.func3 (by kernel_rfl)
    (of_decide_eq_true (by kernel_rfl)) (by unfold Func.isWrapper; first | (rw [if_pos (by decide +kernel)]; kernel_rfl) | (rw [if_neg (by decide +kernel)]; exact ⟨rfl, rfl⟩))
    (fun os started H enc _ => lifted os started H enc)

/-- THE STATEMENT -/
theorem proved : Rows.FnChildRangesOwnTheirCellKeysSaid := over
end Go.Proofs.Qxb6604034a.fnChildRangesOwnTheirCellKeys
