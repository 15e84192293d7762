/-
  PROOF OF 'Rows.FnNewIndexesLastPlaceAndFitsListsSaid': the frame is the guide's shell over slices (howto/shells) turned to the parameters []int and [][]int; the walks lie in the texts that it imports.
-/
import Derived.Test.Qxb6623382aRows
import Derived.WalkKit
import Derived.ProofKit
import Derived.OpenShut
import Derived.ChangeOld
import Derived.Below
import Derived.Deep.Matrix
import Derived.Test.Qxb6623382aLaw
namespace Go.Proofs.Qxb6623382a.fnNewIndexesLastPlaceAndFitsLists
open Go.ChangeShapes Go.WideShapes Go.ChangeAt Go.RowKit
set_option linter.unusedVariables false

theorem own : ownKnob Try.prog.godebug = none := by kernel_rfl
theorem laidOut : laidOutB Try.prog = true := by kernel_rfl
theorem cells3 : Try.prog.cellsOf 3 = 1 := by kernel_rfl
theorem cells22 : Try.prog.cellsOf 22 = 1 := by kernel_rfl

/-! ### WHAT THE ARGUMENTS READ AS, IN THE WALK's OWN WORDS -/
theorem row_of {W : World} {a : Option Addr} {zs : List Int} {len : Nat} (hl : len ≤ zs.length) (h : ∀ i, i < len → ∃ x, a = some x ∧ W.cell? (x.add i) = some (.int .i64 (zs.getD i 0))) : RowAt (fun _ => True) W a (zs.take len) := by
  intro j hj
  have hj' : j < len := by simp at hj; omega
  obtain ⟨x, rfl, hc⟩ := h j hj'
  obtain ⟨b, off, spot⟩ := x
  obtain ⟨x0, hx0, hc0⟩ := h 0 (by omega)
  cases hx0
  have hspot : spot = none := by simpa [Addr.add] using World.cell?_spot hc0
  subst hspot
  refine ⟨b, off, rfl, trivial, ?_⟩
  rw [Addr.add_lit] at hc
  rw [hc]
  simp [hj']

theorem nodes_of {H : Type} {enc : TypeId × Value → H} {W : World} {fuel : Nat} {a0 : Option Addr} {len0 cap0 : Nat} {x : DataW H × List MemPlace} (hf : DataW.trod enc Try.prog W 0 (fun _ => true) true fuel 22 (Value.slice a0 len0 cap0).cells.toList = some x) :
    ∃ N : List Int, N.length = len0 ∧ len0 ≤ maxLen ∧ RowAt (fun _ => True) W a0 N ∧ ∀ x ∈ N, (Lit.int .i64 x).wf = true := by
  rcases open_ints Try.underlying22 Try.underlying3 cells3 hf with ⟨hcs, _⟩ | ⟨x, l, c, zs, hcs, _, hl, hm, hz, _, hcell, hwz⟩
  · simp [Value.cells] at hcs
    obtain ⟨rfl, rfl, rfl⟩ := hcs
    exact ⟨[], rfl, Nat.zero_le _, fun j hj => by simp at hj, fun x hx => by simp at hx⟩
  · simp [Value.cells] at hcs
    obtain ⟨rfl, rfl, rfl⟩ := hcs
    have hz' : zs.length = cap0 := by simpa using hz
    refine ⟨zs.take len0, by simp; omega, by omega, row_of (by omega) (fun i hi => ⟨x, rfl, hcell i (by omega)⟩), fun y hy => hwz y (List.mem_of_mem_take hy)⟩

theorem succ_of {H : Type} {enc : TypeId × Value → H} {W : World} {fuel : Nat} {a1 : Option Addr} {len1 cap1 : Nat} {x : DataW H × List MemPlace} (hf : DataW.trod enc Try.prog W 0 (fun _ => true) true fuel 23 (Value.slice a1 len1 cap1).cells.toList = some x) :
    ∃ Xs : List (List Int), Xs.length = len1 ∧ len1 ≤ maxLen ∧ RowsAt (fun _ => True) (fun _ => True) W a1 Xs ∧ ∀ xs ∈ Xs, xs.length ≤ maxLen := by
  rcases Deep.open_int_rows Try.underlying23 Try.underlying22 Try.underlying3 cells22 cells3 hf with ⟨hcs, _⟩ | ⟨x, l, c, A, L, C, Z, hcs, _, hl, hm, _, hrow⟩
  · simp [Value.cells] at hcs
    obtain ⟨rfl, rfl, rfl⟩ := hcs
    exact ⟨[], rfl, Nat.zero_le _, fun j hj => by simp at hj, fun x hx => by simp at hx⟩
  · simp [Value.cells] at hcs
    obtain ⟨rfl, rfl, rfl⟩ := hcs
    refine ⟨(List.range len1).map (fun r => (Z r).take (L r)), by simp, by omega, ?_, ?_⟩
    · intro j hj
      have hj' : j < len1 := by simpa using hj
      obtain ⟨b, off, spot⟩ := x
      have hc0 := (hrow 0 (by omega)).1
      have hspot : spot = none := by simpa [Addr.add] using World.cell?_spot hc0
      subst hspot
      obtain ⟨h1, h2, h3, h4, h5, h6, h7⟩ := hrow j (by omega)
      refine ⟨b, off, _, rfl, trivial, by rw [← Addr.add_lit]; exact h1, ?_⟩
      have e : ((List.range len1).map (fun r => (Z r).take (L r))).getD j [] = (Z j).take (L j) := by simp [hj']
      rw [e]
      refine (row_of (a := A j) (zs := Z j) (len := L j) (by omega) (fun i hi => ?_)).close (C j) (L j) (by simp; omega)
      cases ha : A j with
      | none => have := h6 ha; omega
      | some a' => exact ⟨a', rfl, (h7 a' ha).2 i (by omega)⟩
    · intro xs hx
      simp only [List.mem_map, List.mem_range] at hx
      obtain ⟨r, hr, rfl⟩ := hx
      obtain ⟨h1, h2, h3, h4, _⟩ := hrow r (by omega)
      simp
      omega

/-! ### THE ROW's STEP: WRITTEN OUT: LEAVE IT -/
set_option maxRecDepth 100000 in
theorem lifted (os : Os) (started : os.Started) (H : Type) (enc : TypeId × Value → H) :
    ReturnsInHanded {} Try.checked os 3 .any (Rows.fnNewIndexesLastPlaceAndFitsListsSpec.pre6 enc Try.prog Try.f3 Rows.fnNewIndexesLastPlaceAndFitsListsRow.domain false) (Rows.fnNewIndexesLastPlaceAndFitsListsSpec.post enc Try.prog Try.f3 false true false false) := by
  refine returnsInHanded_of_change (C := Try.checked) own started (by kernel_rfl) Try.func3
    (ChangeSpec.witness6 (enc := enc) (C := Try.checked) false ⟨#[], #[.slice none 0 0, .slice none 0 0], []⟩ 8 (by kernel_rfl) (by kernel_rfl) (by kernel_rfl) (by kernel_rfl)) ?_
  intro W base args ds gs before hval0 hW hcnd _
  have hval : ∀ (j : Nat) t v, Try.f3.params[j]? = some t → args[j]? = some v → Value.okWide Try.prog W .any base t v := hval0
  have hW' := hW
  obtain ⟨p, q, hA0, hV, rfl, hfz, hnd⟩ := hW
  have hA : DataW.TrodAll enc Try.prog W 0 (fun _ => true) true Try.f3.params.toList args.toList ds p := hA0
  rw [Try.params3] at hA hval
  obtain ⟨v0, vs0, d0, ds0, p0, q0, hargs, rfl, rfl, h0, r0⟩ := trodAll_cons hA
  obtain ⟨v1, vs1, d1, ds1, p1, q1, rfl, rfl, rfl, h1, r1⟩ := trodAll_cons r0
  obtain ⟨rfl, rfl, rfl⟩ := trodAll_nil r1
  obtain rfl : args = #[v0, v1] := by cases args; simp_all
  obtain ⟨rfl, rfl⟩ := trodVars_none hV
  obtain ⟨a0, len0, cap0, rfl⟩ := okWide_slice Try.underlying22 (hval 0 22 v0 rfl rfl)
  have k0 := h0
  have lt0 : ∀ x ∈ p0, x.block < W.heap.size := by obtain ⟨m, hm⟩ := k0; exact DataW.trod_lt m _ _ _ hm
  obtain ⟨a1, len1, cap1, rfl⟩ := okWide_slice Try.underlying23 (hval 1 23 v1 rfl rfl)
  have k1 := h1
  have lt1 : ∀ x ∈ p1, x.block < W.heap.size := by obtain ⟨m, hm⟩ := k1; exact DataW.trod_lt m _ _ _ hm
  obtain ⟨N, hN1, hN2, hN3, hN4⟩ : ∃ N : List Int, N.length = len0 ∧ len0 ≤ maxLen ∧ RowAt (fun _ => True) W a0 N ∧ ∀ x ∈ N, (Lit.int .i64 x).wf = true := by
    obtain ⟨fuel, hf⟩ := h0
    exact nodes_of hf
  obtain ⟨Xs, hX1, hX2, hX3, hX4⟩ : ∃ Xs : List (List Int), Xs.length = len1 ∧ len1 ≤ maxLen ∧ RowsAt (fun _ => True) (fun _ => True) W a1 Xs ∧ ∀ xs ∈ Xs, xs.length ≤ maxLen := by
    obtain ⟨fuel, hf⟩ := h1
    exact succ_of hf
  clear hA0 hval0
  refine (law_walk _ _ _ a0 a1 len0 cap0 len1 cap1 N Xs W hN2 hX2 hN3 hN1 hX3 hX1 hX4 hN4).mono fun e W' ⟨he, bel⟩ => ?_
  subst he
  exact ⟨_, rfl, _, _, _, [], _, [], hW', trodAll_mk1 (shut_bool Try.underlying4 _), (trodAll_cons_mk (Below.trod laidOut (by kernel_rfl) (of_decide_eq_true (by kernel_rfl)) k0 bel lt0) (trodAll_cons_mk (Below.trod laidOut (by kernel_rfl) (of_decide_eq_true (by kernel_rfl)) k1 bel lt1) trodAll_mk0)), rfl, bel.frame _, fun h => by cases h⟩

theorem over : Rows.fnNewIndexesLastPlaceAndFitsListsRow.holds Try.pinned (OpenSpec.ofChange Rows.fnNewIndexesLastPlaceAndFitsListsSpec) :=
  OpenClaim.holds_of_wide 3 Try.f3 rfl rfl rfl rfl rfl rfl rfl ⟨rfl, rfl, rfl, rfl, rfl⟩ rfl rfl rfl rfl rfl (by kernel_rfl) Try.func3 (by kernel_rfl)
    (of_decide_eq_true (by kernel_rfl)) (by unfold Func.isWrapper; first | (rw [if_pos (by decide +kernel)]; kernel_rfl) | (rw [if_neg (by decide +kernel)]; exact ⟨rfl, rfl⟩))
    (fun os started H enc _ => lifted os started H enc)

/-- ████ THE STATEMENT ████ -/
theorem proved : Rows.FnNewIndexesLastPlaceAndFitsListsSaid :=
  over
end Go.Proofs.Qxb6623382a.fnNewIndexesLastPlaceAndFitsLists
