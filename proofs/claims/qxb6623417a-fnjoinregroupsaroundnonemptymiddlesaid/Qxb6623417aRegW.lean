/-
  PROOF OF 'Rows.FnJoinRegroupsAroundNonEmptyMiddleSaid': the given shell (proof-skeleton.mjs) with the walk filled in; the callees' contracts lie in Qxb6623417aBuf.lean.
-/
import Derived.Test.Qxb6623417aRows
import Derived.WalkKit
import Derived.ProofKit
import Derived.OpenShut
import Derived.ShutString
import Derived.Test.Qxb6623417aBuf
namespace Go.Proofs.Qxb6623417a.fnJoinRegroupsAroundNonEmptyMiddle
open Go.ChangeShapes Go.WideShapes Go.ChangeAt Go.RowKit
open Go.ChangeMaps (open_string shut_string)
set_option linter.unusedVariables false      -- a walk need not use every 'w<i>' (that an integer argument fits its kind)

theorem own : ownKnob Try.prog.godebug = none := by kernel_rfl

set_option maxHeartbeats 1000000 in
theorem bytes7 (a b c : ByteArray) (w : World) (w0 : a.size ≤ maxLen) (w1 : b.size ≤ maxLen) (w2 : c.size ≤ maxLen) :
    Calls Try.prog 7 #[.string a, .string b, .string c] w fun x w' => x = .returned (.bool (decide (a.size + b.size + c.size ≤ 1048576))) ∧ w' = w := by
  unfold maxLen at w0 w1 w2
  go_enter Try.func7, Try.ntmps7
  go_wp2
  all_goals go_ret
  all_goals refine ⟨congrArg (fun b => Ending.returned (.bool b)) ?_, rfl⟩
  all_goals first | exact (decide_eq_true (by omega)).symm | exact (decide_eq_false (by omega)).symm

set_option maxHeartbeats 1000000 in
theorem walk_emp (a1 a2 : ByteArray) (w0 : ByteArray.empty.size ≤ maxLen) (w1 : a1.size ≤ maxLen) (w2 : a2.size ≤ maxLen) (w : World) (hs : ByteArray.empty.size + a1.size + a2.size ≤ 1048576) (h1 : a1.size ≤ 262144) (h2 : a2.size ≤ 262144) (hb : ¬ a1 = ByteArray.empty) :
    Calls Try.prog 4 #[.string ByteArray.empty, .string a1, .string a2] w fun e w' => e = .returned (.bool true) ∧ Below w.heap.size w w' := by
  have hn := not_empty hb
  generalize hX : a1 ++ ⟨#[46]⟩ ++ a2 = X
  have sX : X.size ≤ a1.size + a2.size + 1 := by rw [← hX]; simp only [ByteArray.size_append]; have : (⟨#[46]⟩ : ByteArray).size = 1 := rfl; omega
  have e1 : Hid (joinS ByteArray.empty a1 = a1) := rfl
  have e2 : Hid (joinS a1 a2 = X) := by show joinS a1 a2 = X; simp [joinS, hb, hX]
  have e3 : Hid (joinS ByteArray.empty X = X) := rfl
  have HX : Hid (ByteArray.empty ++ a1 ++ ⟨#[46]⟩ ++ a2 = X) := by show ByteArray.empty ++ a1 ++ ⟨#[46]⟩ ++ a2 = X; rw [← hX]; simp
  clear hX hb
  have z0 : ByteArray.empty.size ≤ 0 := Nat.le_refl _
  have z1 : (⟨#[46]⟩ : ByteArray).size ≤ 1 := Nat.le_refl _
  have hB : w.heap.size ≤ w.heap.size := Nat.le_refl _
  generalize hBB : w.heap.size = B at hB
  have HB : Hid (w.heap.size = B) := hBB
  clear hBB
  have hB' : B ≤ w.heap.size := Nat.le_of_eq HB.out.symm
  go_enter Try.func4, Try.ntmps4
  go_wp2_with ((go_at_call 7; refine (bytes7 _ a1 a2 _ w0 w1 w2).mono ?_; rintro x w1' ⟨rfl, h⟩; subst h; rw [decide_eq_true hs]))
  refine (zzjoin_calls _ a1 _ (by omega) (by omega) a1 e1.out).mono ?_
  rintro x w1' ⟨rfl, h⟩
  subst h
  go_wp2_with fail
  refine (zzjoin_calls a1 a2 _ (by omega) (by omega) X e2.out).mono ?_
  rintro x w1' ⟨rfl, h⟩
  subst h
  go_wp2_with fail
  refine (zzjoin_calls a1 a2 _ (by omega) (by omega) X e2.out).mono ?_
  rintro x w1' ⟨rfl, h⟩
  subst h
  go_wp2_with fail
  refine (zzjoin_calls _ X _ (by omega) (by omega) X e3.out).mono ?_
  rintro x w1' ⟨rfl, h⟩
  subst h
  go_wp2_with (first | (at_builtin; refine wpList_app_str rfl (.tmp 48) (.tmp 49) rfl B (.slice none 0 0) ByteArray.empty a1 rfl (Buf.nil _ _) rfl (by omega) hB' ?_; intro v1 x1 b1 l1; have g1 := Nat.le_trans hB' l1.size) | (at_builtin; refine wpList_app_dot rfl (.tmp 51) (.tmp 52) rfl B v1 (ByteArray.empty ++ a1) rfl b1 rfl (by simp; omega) g1 ?_; intro v2 x2 b2 l2; have g2 := Nat.le_trans g1 l2.size) | (at_builtin; refine wpList_app_str rfl (.tmp 54) (.tmp 55) rfl B v2 (ByteArray.empty ++ a1 ++ ⟨#[46]⟩) a2 rfl b2 rfl (by simp only [ByteArray.size_append]; omega) g2 ?_; intro v3 x3 b3 l3; have c3 := conv_buf b3; rw [HX.out] at c3))
  go_ret
  exact ⟨rfl, (l1.trans l2).trans l3⟩

set_option maxHeartbeats 2000000 in
theorem walk_full (a0 a1 a2 : ByteArray) (w0 : a0.size ≤ maxLen) (w1 : a1.size ≤ maxLen) (w2 : a2.size ≤ maxLen) (w : World) (hs : a0.size + a1.size + a2.size ≤ 1048576) (h0 : a0.size ≤ 262144) (h1 : a1.size ≤ 262144) (h2 : a2.size ≤ 262144) (ha : ¬ a0 = ByteArray.empty) (hb : ¬ a1 = ByteArray.empty) :
    Calls Try.prog 4 #[.string a0, .string a1, .string a2] w fun e w' => e = .returned (.bool true) ∧ Below w.heap.size w w' := by
  have hn := not_empty hb
  have hm := not_empty ha
  have z0 : ByteArray.empty.size ≤ 0 := Nat.le_refl _
  have z1 : (⟨#[46]⟩ : ByteArray).size ≤ 1 := Nat.le_refl _
  have sY := size_joinS a0 a1
  have sZ := size_joinS a1 a2
  have sX := size_joinS (joinS a0 a1) a2
  have f4 : joinS a0 (joinS a1 a2) = joinS (joinS a0 a1) a2 := by simp [joinS, ha, hb, ByteArray.append_assoc]
  have fX : ByteArray.empty ++ a0 ++ ⟨#[46]⟩ ++ a1 ++ ⟨#[46]⟩ ++ a2 = joinS (joinS a0 a1) a2 := by simp [joinS, ha, ByteArray.append_assoc]
  generalize hY : joinS a0 a1 = Y at sY sX f4 fX
  generalize hZ : joinS a1 a2 = Z at sZ f4
  generalize hX : joinS Y a2 = X at sX f4 fX
  have e1 : Hid (joinS a0 a1 = Y) := hY
  have e2 : Hid (joinS Y a2 = X) := hX
  have e3 : Hid (joinS a1 a2 = Z) := hZ
  have e4 : Hid (joinS a0 Z = X) := f4
  have HX : Hid (ByteArray.empty ++ a0 ++ ⟨#[46]⟩ ++ a1 ++ ⟨#[46]⟩ ++ a2 = X) := fX
  clear hX hY hZ f4 fX ha hb
  have hB : w.heap.size ≤ w.heap.size := Nat.le_refl _
  generalize hBB : w.heap.size = B at hB
  have HB : Hid (w.heap.size = B) := hBB
  clear hBB
  have hB' : B ≤ w.heap.size := Nat.le_of_eq HB.out.symm
  go_enter Try.func4, Try.ntmps4
  go_wp2_with ((go_at_call 7; refine (bytes7 a0 a1 a2 _ w0 w1 w2).mono ?_; rintro x w1' ⟨rfl, h⟩; subst h; rw [decide_eq_true hs]))
  refine (zzjoin_calls a0 a1 _ (by omega) (by omega) Y e1.out).mono ?_
  rintro x w1' ⟨rfl, h⟩
  subst h
  go_wp2_with fail
  refine (zzjoin_calls Y a2 _ (by omega) (by omega) X e2.out).mono ?_
  rintro x w1' ⟨rfl, h⟩
  subst h
  go_wp2_with fail
  refine (zzjoin_calls a1 a2 _ (by omega) (by omega) Z e3.out).mono ?_
  rintro x w1' ⟨rfl, h⟩
  subst h
  go_wp2_with fail
  refine (zzjoin_calls a0 Z _ (by omega) (by omega) X e4.out).mono ?_
  rintro x w1' ⟨rfl, h⟩
  subst h
  go_wp2_with (first | (at_builtin; refine wpList_app_str rfl (.tmp 42) (.tmp 43) rfl B (.slice none 0 0) ByteArray.empty a0 rfl (Buf.nil _ _) rfl (by omega) hB' ?_; intro v1 x1 b1 l1; have g1 := Nat.le_trans hB' l1.size) | (at_builtin; refine wpList_app_dot rfl (.tmp 45) (.tmp 46) rfl B v1 (ByteArray.empty ++ a0) rfl b1 rfl (by simp; omega) g1 ?_; intro v2 x2 b2 l2; have g2 := Nat.le_trans g1 l2.size) | (at_builtin; refine wpList_app_str rfl (.tmp 48) (.tmp 49) rfl B v2 (ByteArray.empty ++ a0 ++ ⟨#[46]⟩) a1 rfl b2 rfl (by simp only [ByteArray.size_append]; omega) g2 ?_; intro v3 x3 b3 l3; have g3 := Nat.le_trans g2 l3.size) | (at_builtin; refine wpList_app_dot rfl (.tmp 51) (.tmp 52) rfl B v3 (ByteArray.empty ++ a0 ++ ⟨#[46]⟩ ++ a1) rfl b3 rfl (by simp only [ByteArray.size_append]; omega) g3 ?_; intro v4 x4 b4 l4; have g4 := Nat.le_trans g3 l4.size) | (at_builtin; refine wpList_app_str rfl (.tmp 54) (.tmp 55) rfl B v4 (ByteArray.empty ++ a0 ++ ⟨#[46]⟩ ++ a1 ++ ⟨#[46]⟩) a2 rfl b4 rfl (by simp only [ByteArray.size_append]; omega) g4 ?_; intro v5 x5 b5 l5; have c5 := conv_buf b5; rw [HX.out] at c5))
  go_ret
  exact ⟨rfl, (((l1.trans l2).trans l3).trans l4).trans l5⟩

end Go.Proofs.Qxb6623417a.fnJoinRegroupsAroundNonEmptyMiddle
