/-
  PROOF OF 'Rows.FnTupleStringDecodesBackSaid': the given shell (proof-skeleton.mjs) with the walk filled in; the callees' contracts lie in Qxb6623256aStr.lean and Qxb6623256aIdx.lean, the plain law in Qxb6623256aDec.lean.
-/
import Derived.Test.Qxb6623256aRows
import Derived.WalkKit
import Derived.ProofKit
import Derived.OpenShut
import Derived.ShutString
import Derived.Test.Qxb6623256aDec
namespace Go.Proofs.Qxb6623256a.fnTupleStringDecodesBack
open Go.ChangeShapes Go.WideShapes Go.ChangeAt Go.RowKit
open Go.ChangeMaps (open_string shut_string)
set_option linter.unusedVariables false      -- a walk need not use every 'w<i>' (that an integer argument fits its kind)

theorem own : ownKnob Try.prog.godebug = none := by kernel_rfl

/-! ### STEP 1: THE WALK -/
set_option maxRecDepth 100000 in
set_option maxHeartbeats 1000000 in
theorem walk_sep0 (a0 : ByteArray) (a1 : ByteArray) (a2 : ByteArray) (a3 : ByteArray) (a4 : ByteArray) (a5 : ByteArray) (w0 : a0.size ≤ maxLen) (w1 : a1.size ≤ maxLen) (w2 : a2.size ≤ maxLen) (w3 : a3.size ≤ maxLen) (w4 : a4.size ≤ maxLen) (w5 : a5.size ≤ maxLen) (w : World) (hs : a0.size + a1.size + a2.size + a3.size + a4.size + a5.size ≤ 1048576)  (n0 : sepB a0 = true) :
    Calls Try.prog 3 #[.string a0, .string a1, .string a2, .string a3, .string a4, .string a5] w fun e w' => e = .returned (.bool true) ∧ Grown w w' := by
  go_enter Try.func3, Try.ntmps3
  go_wp2_with (first | (go_at_call 5; refine (bytes5_yes a0 a1 a2 a3 a4 a5 _ w0 w1 w2 w3 w4 w5 hs).mono ?_; rintro x w' ⟨rfl, rfl⟩) | (go_at_call_of 6 (Value.string a0); refine (sep_calls a0 _ w0).mono ?_; rintro e w' ⟨rfl, rfl⟩; rw [n0]))
  go_ret
  exact ⟨rfl, Grown.refl _⟩
set_option maxRecDepth 100000 in
set_option maxHeartbeats 1000000 in
theorem walk_sep1 (a0 : ByteArray) (a1 : ByteArray) (a2 : ByteArray) (a3 : ByteArray) (a4 : ByteArray) (a5 : ByteArray) (w0 : a0.size ≤ maxLen) (w1 : a1.size ≤ maxLen) (w2 : a2.size ≤ maxLen) (w3 : a3.size ≤ maxLen) (w4 : a4.size ≤ maxLen) (w5 : a5.size ≤ maxLen) (w : World) (hs : a0.size + a1.size + a2.size + a3.size + a4.size + a5.size ≤ 1048576) (n0 : sepB a0 = false) (n1 : sepB a1 = true) :
    Calls Try.prog 3 #[.string a0, .string a1, .string a2, .string a3, .string a4, .string a5] w fun e w' => e = .returned (.bool true) ∧ Grown w w' := by
  go_enter Try.func3, Try.ntmps3
  go_wp2_with (first | (go_at_call 5; refine (bytes5_yes a0 a1 a2 a3 a4 a5 _ w0 w1 w2 w3 w4 w5 hs).mono ?_; rintro x w' ⟨rfl, rfl⟩) | (go_at_call_of 6 (Value.string a0); refine (sep_calls a0 _ w0).mono ?_; rintro e w' ⟨rfl, rfl⟩; rw [n0]) | (go_at_call_of 6 (Value.string a1); refine (sep_calls a1 _ w1).mono ?_; rintro e w' ⟨rfl, rfl⟩; rw [n1]))
  go_ret
  exact ⟨rfl, Grown.refl _⟩
set_option maxRecDepth 100000 in
set_option maxHeartbeats 1000000 in
theorem walk_sep2 (a0 : ByteArray) (a1 : ByteArray) (a2 : ByteArray) (a3 : ByteArray) (a4 : ByteArray) (a5 : ByteArray) (w0 : a0.size ≤ maxLen) (w1 : a1.size ≤ maxLen) (w2 : a2.size ≤ maxLen) (w3 : a3.size ≤ maxLen) (w4 : a4.size ≤ maxLen) (w5 : a5.size ≤ maxLen) (w : World) (hs : a0.size + a1.size + a2.size + a3.size + a4.size + a5.size ≤ 1048576) (n0 : sepB a0 = false) (n1 : sepB a1 = false) (n2 : sepB a2 = true) :
    Calls Try.prog 3 #[.string a0, .string a1, .string a2, .string a3, .string a4, .string a5] w fun e w' => e = .returned (.bool true) ∧ Grown w w' := by
  go_enter Try.func3, Try.ntmps3
  go_wp2_with (first | (go_at_call 5; refine (bytes5_yes a0 a1 a2 a3 a4 a5 _ w0 w1 w2 w3 w4 w5 hs).mono ?_; rintro x w' ⟨rfl, rfl⟩) | (go_at_call_of 6 (Value.string a0); refine (sep_calls a0 _ w0).mono ?_; rintro e w' ⟨rfl, rfl⟩; rw [n0]) | (go_at_call_of 6 (Value.string a1); refine (sep_calls a1 _ w1).mono ?_; rintro e w' ⟨rfl, rfl⟩; rw [n1]) | (go_at_call_of 6 (Value.string a2); refine (sep_calls a2 _ w2).mono ?_; rintro e w' ⟨rfl, rfl⟩; rw [n2]))
  go_ret
  exact ⟨rfl, Grown.refl _⟩
set_option maxRecDepth 100000 in
set_option maxHeartbeats 1000000 in
theorem walk_sep3 (a0 : ByteArray) (a1 : ByteArray) (a2 : ByteArray) (a3 : ByteArray) (a4 : ByteArray) (a5 : ByteArray) (w0 : a0.size ≤ maxLen) (w1 : a1.size ≤ maxLen) (w2 : a2.size ≤ maxLen) (w3 : a3.size ≤ maxLen) (w4 : a4.size ≤ maxLen) (w5 : a5.size ≤ maxLen) (w : World) (hs : a0.size + a1.size + a2.size + a3.size + a4.size + a5.size ≤ 1048576) (n0 : sepB a0 = false) (n1 : sepB a1 = false) (n2 : sepB a2 = false) (n3 : sepB a3 = true) :
    Calls Try.prog 3 #[.string a0, .string a1, .string a2, .string a3, .string a4, .string a5] w fun e w' => e = .returned (.bool true) ∧ Grown w w' := by
  go_enter Try.func3, Try.ntmps3
  go_wp2_with (first | (go_at_call 5; refine (bytes5_yes a0 a1 a2 a3 a4 a5 _ w0 w1 w2 w3 w4 w5 hs).mono ?_; rintro x w' ⟨rfl, rfl⟩) | (go_at_call_of 6 (Value.string a0); refine (sep_calls a0 _ w0).mono ?_; rintro e w' ⟨rfl, rfl⟩; rw [n0]) | (go_at_call_of 6 (Value.string a1); refine (sep_calls a1 _ w1).mono ?_; rintro e w' ⟨rfl, rfl⟩; rw [n1]) | (go_at_call_of 6 (Value.string a2); refine (sep_calls a2 _ w2).mono ?_; rintro e w' ⟨rfl, rfl⟩; rw [n2]) | (go_at_call_of 6 (Value.string a3); refine (sep_calls a3 _ w3).mono ?_; rintro e w' ⟨rfl, rfl⟩; rw [n3]))
  go_ret
  exact ⟨rfl, Grown.refl _⟩
set_option maxRecDepth 100000 in
set_option maxHeartbeats 1000000 in
theorem walk_sep4 (a0 : ByteArray) (a1 : ByteArray) (a2 : ByteArray) (a3 : ByteArray) (a4 : ByteArray) (a5 : ByteArray) (w0 : a0.size ≤ maxLen) (w1 : a1.size ≤ maxLen) (w2 : a2.size ≤ maxLen) (w3 : a3.size ≤ maxLen) (w4 : a4.size ≤ maxLen) (w5 : a5.size ≤ maxLen) (w : World) (hs : a0.size + a1.size + a2.size + a3.size + a4.size + a5.size ≤ 1048576) (n0 : sepB a0 = false) (n1 : sepB a1 = false) (n2 : sepB a2 = false) (n3 : sepB a3 = false) (n4 : sepB a4 = true) :
    Calls Try.prog 3 #[.string a0, .string a1, .string a2, .string a3, .string a4, .string a5] w fun e w' => e = .returned (.bool true) ∧ Grown w w' := by
  go_enter Try.func3, Try.ntmps3
  go_wp2_with (first | (go_at_call 5; refine (bytes5_yes a0 a1 a2 a3 a4 a5 _ w0 w1 w2 w3 w4 w5 hs).mono ?_; rintro x w' ⟨rfl, rfl⟩) | (go_at_call_of 6 (Value.string a0); refine (sep_calls a0 _ w0).mono ?_; rintro e w' ⟨rfl, rfl⟩; rw [n0]) | (go_at_call_of 6 (Value.string a1); refine (sep_calls a1 _ w1).mono ?_; rintro e w' ⟨rfl, rfl⟩; rw [n1]) | (go_at_call_of 6 (Value.string a2); refine (sep_calls a2 _ w2).mono ?_; rintro e w' ⟨rfl, rfl⟩; rw [n2]) | (go_at_call_of 6 (Value.string a3); refine (sep_calls a3 _ w3).mono ?_; rintro e w' ⟨rfl, rfl⟩; rw [n3]) | (go_at_call_of 6 (Value.string a4); refine (sep_calls a4 _ w4).mono ?_; rintro e w' ⟨rfl, rfl⟩; rw [n4]))
  go_ret
  exact ⟨rfl, Grown.refl _⟩
set_option maxRecDepth 100000 in
set_option maxHeartbeats 1000000 in
theorem walk_sep5 (a0 : ByteArray) (a1 : ByteArray) (a2 : ByteArray) (a3 : ByteArray) (a4 : ByteArray) (a5 : ByteArray) (w0 : a0.size ≤ maxLen) (w1 : a1.size ≤ maxLen) (w2 : a2.size ≤ maxLen) (w3 : a3.size ≤ maxLen) (w4 : a4.size ≤ maxLen) (w5 : a5.size ≤ maxLen) (w : World) (hs : a0.size + a1.size + a2.size + a3.size + a4.size + a5.size ≤ 1048576) (n0 : sepB a0 = false) (n1 : sepB a1 = false) (n2 : sepB a2 = false) (n3 : sepB a3 = false) (n4 : sepB a4 = false) (n5 : sepB a5 = true) :
    Calls Try.prog 3 #[.string a0, .string a1, .string a2, .string a3, .string a4, .string a5] w fun e w' => e = .returned (.bool true) ∧ Grown w w' := by
  go_enter Try.func3, Try.ntmps3
  go_wp2_with (first | (go_at_call 5; refine (bytes5_yes a0 a1 a2 a3 a4 a5 _ w0 w1 w2 w3 w4 w5 hs).mono ?_; rintro x w' ⟨rfl, rfl⟩) | (go_at_call_of 6 (Value.string a0); refine (sep_calls a0 _ w0).mono ?_; rintro e w' ⟨rfl, rfl⟩; rw [n0]) | (go_at_call_of 6 (Value.string a1); refine (sep_calls a1 _ w1).mono ?_; rintro e w' ⟨rfl, rfl⟩; rw [n1]) | (go_at_call_of 6 (Value.string a2); refine (sep_calls a2 _ w2).mono ?_; rintro e w' ⟨rfl, rfl⟩; rw [n2]) | (go_at_call_of 6 (Value.string a3); refine (sep_calls a3 _ w3).mono ?_; rintro e w' ⟨rfl, rfl⟩; rw [n3]) | (go_at_call_of 6 (Value.string a4); refine (sep_calls a4 _ w4).mono ?_; rintro e w' ⟨rfl, rfl⟩; rw [n4]) | (go_at_call_of 6 (Value.string a5); refine (sep_calls a5 _ w5).mono ?_; rintro e w' ⟨rfl, rfl⟩; rw [n5]))
  go_ret
  exact ⟨rfl, Grown.refl _⟩

set_option maxRecDepth 100000 in
set_option maxHeartbeats 1000000 in
theorem walk_no (a0 : ByteArray) (a1 : ByteArray) (a2 : ByteArray) (a3 : ByteArray) (a4 : ByteArray) (a5 : ByteArray) (w0 : a0.size ≤ maxLen) (w1 : a1.size ≤ maxLen) (w2 : a2.size ≤ maxLen) (w3 : a3.size ≤ maxLen) (w4 : a4.size ≤ maxLen) (w5 : a5.size ≤ maxLen) (w : World) (hs : ¬ a0.size + a1.size + a2.size + a3.size + a4.size + a5.size ≤ 1048576) :
    Calls Try.prog 3 #[.string a0, .string a1, .string a2, .string a3, .string a4, .string a5] w fun e w' => e = .returned (.bool true) ∧ Grown w w' := by
  go_enter Try.func3, Try.ntmps3
  go_wp2_with (go_at_call 5; refine (bytes5_no a0 a1 a2 a3 a4 a5 _ w0 w1 w2 w3 w4 w5 hs).mono ?_; rintro x w' ⟨rfl, rfl⟩)
  go_ret
  exact ⟨rfl, Grown.refl _⟩


theorem size_tupS (a b r c d e : ByteArray) : (tupS a b r c d e).size ≤ a.size + b.size + r.size + c.size + d.size + e.size + 5 := by
  have h1 : (⟨#[64]⟩ : ByteArray).size = 1 := rfl
  have h2 : (⟨#[35]⟩ : ByteArray).size = 1 := rfl
  have h3 := size_objS a b
  have h4 := size_usrS c d e
  unfold tupS
  simp only [ByteArray.size_append]
  omega

set_option maxRecDepth 100000 in
set_option maxHeartbeats 2000000 in
theorem walk_yes (a0 : ByteArray) (a1 : ByteArray) (a2 : ByteArray) (a3 : ByteArray) (a4 : ByteArray) (a5 : ByteArray) (w0 : a0.size ≤ maxLen) (w1 : a1.size ≤ maxLen) (w2 : a2.size ≤ maxLen) (w3 : a3.size ≤ maxLen) (w4 : a4.size ≤ maxLen) (w5 : a5.size ≤ maxLen) (w : World) (hs : a0.size + a1.size + a2.size + a3.size + a4.size + a5.size ≤ 1048576) (n0 : sepB a0 = false) (n1 : sepB a1 = false) (n2 : sepB a2 = false) (n3 : sepB a3 = false) (n4 : sepB a4 = false) (n5 : sepB a5 = false) (ne : ¬ a5 = ByteArray.empty) :
    Calls Try.prog 3 #[.string a0, .string a1, .string a2, .string a3, .string a4, .string a5] w fun e w' => e = .returned (.bool true) ∧ Grown w w' := by
  obtain ⟨i1, i2, i3, i4, i5, H1, H2, H3, H4, H5, HL⟩ := dec_yes a0 a1 a2 a3 a4 a5 n0 n1 n2 n3 n4 ne
  have hn := not_empty ne
  have b1 := size_tupS a0 a1 a2 a3 a4 a5
  generalize hX : tupS a0 a1 a2 a3 a4 a5 = X at b1 H1 H2 H3 H4 H5 HL
  have HX : Hid (tupS a0 a1 a2 a3 a4 a5 = X) := hX
  clear hX
  have wX : X.size ≤ maxLen := by unfold maxLen; omega
  have e1 := H1.ext
  have e2 := H2.ext
  have e3 := H3.ext
  have e4 := H4.ext
  have e5 := H5.ext
  have e6 := HL.ext
  have l1 := H1.lt
  have l2 := H2.lt
  have l3 := H3.lt
  have l4 := H4.lt
  have l5 := H5.lt
  have g2 := H2.le
  have g3 := H3.le
  have g4 := H4.le
  have g5 := H5.le
  have g6 := HL.le
  clear ne
  go_enter Try.func3, Try.ntmps3
  go_wp2_with (first | (go_at_call 5; refine (bytes5_yes a0 a1 a2 a3 a4 a5 _ w0 w1 w2 w3 w4 w5 hs).mono ?_; rintro x w' ⟨rfl, rfl⟩) | (go_at_call_of 6 (Value.string a0); refine (sep_calls a0 _ w0).mono ?_; rintro e w' ⟨rfl, rfl⟩; rw [n0]) | (go_at_call_of 6 (Value.string a1); refine (sep_calls a1 _ w1).mono ?_; rintro e w' ⟨rfl, rfl⟩; rw [n1]) | (go_at_call_of 6 (Value.string a2); refine (sep_calls a2 _ w2).mono ?_; rintro e w' ⟨rfl, rfl⟩; rw [n2]) | (go_at_call_of 6 (Value.string a3); refine (sep_calls a3 _ w3).mono ?_; rintro e w' ⟨rfl, rfl⟩; rw [n3]) | (go_at_call_of 6 (Value.string a4); refine (sep_calls a4 _ w4).mono ?_; rintro e w' ⟨rfl, rfl⟩; rw [n4]) | (go_at_call_of 6 (Value.string a5); refine (sep_calls a5 _ w5).mono ?_; rintro e w' ⟨rfl, rfl⟩; rw [n5]) | (go_at_call 7; refine (tup_calls a0 a1 a2 a3 a4 a5 _ (by omega) (by omega) (by omega) (by omega) (by omega) (by omega)).mono ?_; rintro e w' ⟨rfl, rfl⟩; rw [HX.out]))
  refine (idx_hit X 0 i1 _ 58 _ wX (by simp) H1.le H1.lt H1.hit H1.miss).mono ?_
  rintro e w1' ⟨rfl, rfl⟩
  go_wp2_with fail
  refine (idx_hit X (i1 + 1) i2 _ 35 _ wX (by omega) H2.le H2.lt H2.hit H2.miss).mono ?_
  rintro e w1' ⟨rfl, rfl⟩
  go_wp2_with fail
  refine (idx_hit X (i2 + 1) i3 _ 64 _ wX (by omega) H3.le H3.lt H3.hit H3.miss).mono ?_
  rintro e w1' ⟨rfl, rfl⟩
  go_wp2_with fail
  refine (idx_hit X (i3 + 1) i4 _ 58 _ wX (by omega) H4.le H4.lt H4.hit H4.miss).mono ?_
  rintro e w1' ⟨rfl, rfl⟩
  go_wp2_with fail
  refine (idx_hit X (i4 + 1) i5 _ 35 _ wX (by omega) H5.le H5.lt H5.hit H5.miss).mono ?_
  rintro e w1' ⟨rfl, rfl⟩
  go_wp2_with fail
  go_ret
  exact ⟨rfl, by repeat (first | exact Grown.refl _ | apply Grown.drew | apply Grown.alloc)⟩
set_option maxRecDepth 100000 in
set_option maxHeartbeats 2000000 in
theorem walk_emp (a0 : ByteArray) (a1 : ByteArray) (a2 : ByteArray) (a3 : ByteArray) (a4 : ByteArray) (w0 : a0.size ≤ maxLen) (w1 : a1.size ≤ maxLen) (w2 : a2.size ≤ maxLen) (w3 : a3.size ≤ maxLen) (w4 : a4.size ≤ maxLen) (w5 : ByteArray.empty.size ≤ maxLen) (w : World) (hs : a0.size + a1.size + a2.size + a3.size + a4.size + ByteArray.empty.size ≤ 1048576) (n0 : sepB a0 = false) (n1 : sepB a1 = false) (n2 : sepB a2 = false) (n3 : sepB a3 = false) (n4 : sepB a4 = false) (n5 : sepB ByteArray.empty = false) :
    Calls Try.prog 3 #[.string a0, .string a1, .string a2, .string a3, .string a4, .string ByteArray.empty] w fun e w' => e = .returned (.bool true) ∧ Grown w w' := by
  obtain ⟨i1, i2, i3, i4, H1, H2, H3, H4, HL, HM⟩ := dec_no a0 a1 a2 a3 a4 n0 n1 n2 n3 n4
  have b1 := size_tupS a0 a1 a2 a3 a4 ByteArray.empty
  generalize hX : tupS a0 a1 a2 a3 a4 ByteArray.empty = X at b1 H1 H2 H3 H4 HL HM
  have HX : Hid (tupS a0 a1 a2 a3 a4 ByteArray.empty = X) := hX
  clear hX
  have wX : X.size ≤ maxLen := by unfold maxLen; omega
  have e1 := H1.ext
  have e2 := H2.ext
  have e3 := H3.ext
  have e4 := H4.ext
  have e6 := HL.ext
  have l1 := H1.lt
  have l2 := H2.lt
  have l3 := H3.lt
  have l4 := H4.lt
  have g2 := H2.le
  have g3 := H3.le
  have g4 := H4.le
  have g6 := HL.le
  go_enter Try.func3, Try.ntmps3
  go_wp2_with (first | (go_at_call 5; refine (bytes5_yes a0 a1 a2 a3 a4 ByteArray.empty _ w0 w1 w2 w3 w4 w5 hs).mono ?_; rintro x w' ⟨rfl, rfl⟩) | (go_at_call_of 6 (Value.string a0); refine (sep_calls a0 _ w0).mono ?_; rintro e w' ⟨rfl, rfl⟩; rw [n0]) | (go_at_call_of 6 (Value.string a1); refine (sep_calls a1 _ w1).mono ?_; rintro e w' ⟨rfl, rfl⟩; rw [n1]) | (go_at_call_of 6 (Value.string a2); refine (sep_calls a2 _ w2).mono ?_; rintro e w' ⟨rfl, rfl⟩; rw [n2]) | (go_at_call_of 6 (Value.string a3); refine (sep_calls a3 _ w3).mono ?_; rintro e w' ⟨rfl, rfl⟩; rw [n3]) | (go_at_call_of 6 (Value.string a4); refine (sep_calls a4 _ w4).mono ?_; rintro e w' ⟨rfl, rfl⟩; rw [n4]) | (go_at_call 6; refine (sep_calls ByteArray.empty _ w5).mono ?_; rintro e w' ⟨rfl, rfl⟩; rw [n5]) | (go_at_call 7; refine (tup_calls a0 a1 a2 a3 a4 ByteArray.empty _ (by omega) (by omega) (by omega) (by omega) (by omega) (by omega)).mono ?_; rintro e w' ⟨rfl, rfl⟩; rw [HX.out]))
  refine (idx_hit X 0 i1 _ 58 _ wX (by simp) H1.le H1.lt H1.hit H1.miss).mono ?_
  rintro e w1' ⟨rfl, rfl⟩
  go_wp2_with fail
  refine (idx_hit X (i1 + 1) i2 _ 35 _ wX (by omega) H2.le H2.lt H2.hit H2.miss).mono ?_
  rintro e w1' ⟨rfl, rfl⟩
  go_wp2_with fail
  refine (idx_hit X (i2 + 1) i3 _ 64 _ wX (by omega) H3.le H3.lt H3.hit H3.miss).mono ?_
  rintro e w1' ⟨rfl, rfl⟩
  go_wp2_with fail
  refine (idx_hit X (i3 + 1) i4 _ 58 _ wX (by omega) H4.le H4.lt H4.hit H4.miss).mono ?_
  rintro e w1' ⟨rfl, rfl⟩
  go_wp2_with fail
  refine (idx_miss X (i4 + 1) _ 35 _ wX (by omega) HL.le HM).mono ?_
  rintro e w1' ⟨rfl, rfl⟩
  go_wp2_with fail
  go_ret
  exact ⟨rfl, by repeat (first | exact Grown.refl _ | apply Grown.drew | apply Grown.alloc)⟩
end Go.Proofs.Qxb6623256a.fnTupleStringDecodesBack
