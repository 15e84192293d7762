/-
  PROOF OF 'Rows.FnUint32OrderMatchesReversedPrefixSaid': the given shell (proof-skeleton.mjs) with the walk filled in; the callees' contracts lie in Qxb6623323aU32.lean and Qxb6623323aCmp.lean.
-/
import Derived.Test.Qxb6623323aRows
import Derived.WalkKit
import Derived.ProofKit
import Derived.OpenShut
import Derived.ShutString
import Derived.Test.Qxb6623323aCmp
namespace Go.Proofs.Qxb6623323a.fnUint32OrderMatchesReversedPrefix
open Go.ChangeShapes Go.WideShapes Go.ChangeAt Go.RowKit
open Go.ChangeMaps (open_string shut_string)
set_option linter.unusedVariables false      -- a walk need not use every 'w<i>' (that an integer argument fits its kind)

theorem own : ownKnob Try.prog.godebug = none := by kernel_rfl

set_option maxHeartbeats 1000000 in
theorem walk_main (a0 a1 : ByteArray) (w0 : a0.size ≤ maxLen) (w1 : a1.size ≤ maxLen) (w : World) (hs : a0.size + a1.size ≤ 1048576) (h0 : 3 < a0.size) (h1 : 3 < a1.size) :
    Calls Try.prog 4 #[.string a0, .string a1] w fun e w' => e = .returned (.bool true) ∧ Grown w w' := by
  generalize hA : num a0 h0 = A
  generalize hB : num a1 h1 = B
  have HA : Hid (num a0 h0 = A) := hA
  have HB : Hid (num a1 h1 = B) := hB
  clear hA hB
  go_enter Try.func4, Try.ntmps4
  go_wp2_with (first | (go_at_call 7; refine (bytes7 a0 a1 _ w0 w1).mono ?_; rintro x w' ⟨rfl, rfl⟩; rw [decide_eq_true hs]) | (go_at_call_of 6 (Value.string a0); refine (u32_at a0 _ w0 h0 A HA.out).mono ?_; rintro x w' ⟨rfl, n1, rfl⟩) | (go_at_call_of 6 (Value.string a1); refine (u32_at a1 _ w1 h1 B HB.out).mono ?_; rintro x w' ⟨rfl, n2, rfl⟩))
  refine (cmp_calls a0 a1 _ w0 w1 h0 h1).mono ?_
  rintro x w' ⟨r, rfl, hc, n3, rfl⟩
  rw [HA.out, HB.out] at hc
  rcases hc with ⟨rfl, hlt⟩ | ⟨rfl, rfl⟩ | ⟨rfl, hlt⟩
  · have e1 : (A == B) = false := by rw [beq_eq_false_iff_ne]; omega
    go_wp2_with fail
    go_ret
    exact ⟨rfl, grown_drewN (Grown.refl _) _⟩
  · go_wp2_with fail
    go_ret
    exact ⟨rfl, grown_drewN (Grown.refl _) _⟩
  · have e1 : (A == B) = false := by rw [beq_eq_false_iff_ne]; omega
    have e2 : decide (A < B) = false := decide_eq_false (by omega)
    go_wp2_with fail
    go_ret
    exact ⟨rfl, grown_drewN (Grown.refl _) _⟩

/-! ### STEP 1: THE WALK: the Go text returns true. 'Grown w w'': the world has at most new blocks (Derived/RowKit3.lean). Part the cases AHEAD of 'go_enter' where a test parts the walk; take each callee by a contract of your own. -/
theorem walk (a0 : ByteArray) (a1 : ByteArray) (w0 : a0.size ≤ maxLen) (w1 : a1.size ≤ maxLen) (w : World) :
    Calls Try.prog 4 #[.string a0, .string a1] w fun e w' => e = .returned (.bool true) ∧ Grown w w' := by
  by_cases hs : a0.size + a1.size ≤ 1048576
  · by_cases h0 : a0.size < 4
    · go_enter Try.func4, Try.ntmps4
      go_wp2_with ((go_at_call 7; refine (bytes7 a0 a1 _ w0 w1).mono ?_; rintro x w' ⟨rfl, rfl⟩; rw [decide_eq_true hs]))
      go_ret
      exact ⟨rfl, Grown.refl _⟩
    · by_cases h1 : a1.size < 4
      · go_enter Try.func4, Try.ntmps4
        go_wp2_with ((go_at_call 7; refine (bytes7 a0 a1 _ w0 w1).mono ?_; rintro x w' ⟨rfl, rfl⟩; rw [decide_eq_true hs]))
        go_ret
        exact ⟨rfl, Grown.refl _⟩
      · exact walk_main a0 a1 w0 w1 w hs (by omega) (by omega)
  · go_enter Try.func4, Try.ntmps4
    go_wp2_with (go_at_call 7; refine (bytes7 a0 a1 _ w0 w1).mono ?_; rintro x w' ⟨rfl, rfl⟩; rw [decide_eq_false hs])
    go_ret
    exact ⟨rfl, Grown.refl _⟩

/-! ### THE ROW's STEP: WRITTEN OUT: LEAVE IT -/
set_option maxRecDepth 100000 in
theorem lifted (os : Os) (started : os.Started) (H : Type) (enc : TypeId × Value → H) :
    ReturnsInHanded {} Try.checked os 4 .any (Rows.fnUint32OrderMatchesReversedPrefixSpec.pre6 enc Try.prog Try.f4 Rows.fnUint32OrderMatchesReversedPrefixRow.domain false) (Rows.fnUint32OrderMatchesReversedPrefixSpec.post enc Try.prog Try.f4 false true false false) := by
  refine returnsInHanded_of_change (C := Try.checked) own started (by kernel_rfl) Try.func4
    (ChangeSpec.witness6 (enc := enc) (C := Try.checked) false ⟨#[], #[.string ByteArray.empty, .string ByteArray.empty], []⟩ 8 (by kernel_rfl) (by kernel_rfl) (by kernel_rfl) (by kernel_rfl)) ?_
  intro W base args ds gs before hval0 hW hcnd _
  have hval : ∀ (j : Nat) t v, Try.f4.params[j]? = some t → args[j]? = some v → Value.okWide Try.prog W .any base t v := hval0
  have hW' := hW
  obtain ⟨p, q, hA0, hV, rfl, hfz, hnd⟩ := hW
  have hA : DataW.TrodAll enc Try.prog W 0 (fun _ => true) true Try.f4.params.toList args.toList ds p := hA0
  rw [Try.params4] at hA hval
  obtain ⟨v0, vs0, d0, ds0, p0, q0, hargs, rfl, rfl, h0, r0⟩ := trodAll_cons hA
  obtain ⟨v1, vs1, d1, ds1, p1, q1, rfl, rfl, rfl, h1, r1⟩ := trodAll_cons r0
  obtain ⟨rfl, rfl, rfl⟩ := trodAll_nil r1
  obtain rfl : args = #[v0, v1] := by cases args; simp_all
  obtain ⟨rfl, rfl⟩ := trodVars_none hV
  obtain ⟨a0, rfl, rfl, rfl, w0⟩ := open_string Try.underlying9 (hval 0 9 v0 rfl rfl) h0
  obtain ⟨a1, rfl, rfl, rfl, w1⟩ := open_string Try.underlying9 (hval 1 9 v1 rfl rfl) h1
  clear hA0 hval0
  simp only [List.append_nil] at hW'
  refine (walk a0 a1 w0 w1 W).mono fun e W' ⟨he, hg⟩ => ?_
  subst he
  exact ⟨_, rfl, post_of_same (pa := []) (pv := []) hW' (fun _ _ _ => (trodAll_cons_mk (shut_bool Try.underlying4 _) trodAll_mk0)) (fun sp _ => (trodAll_cons_mk (shut_string Try.underlying9 w0) (trodAll_cons_mk (shut_string Try.underlying9 w1) trodAll_mk0))) (fun _ _ => rfl) rfl
    (hg.frame _) hg.2.1 (ok_one (by kernel_rfl) rfl (okWide_bool_mk Try.underlying4 _))⟩

theorem over : Rows.fnUint32OrderMatchesReversedPrefixRow.holds Try.pinned (OpenSpec.ofChange Rows.fnUint32OrderMatchesReversedPrefixSpec) :=
  OpenClaim.holds_of_wide 4 Try.f4 rfl rfl rfl rfl rfl rfl rfl ⟨rfl, rfl, rfl, rfl, rfl⟩ rfl rfl rfl rfl rfl (by kernel_rfl) Try.func4 (by kernel_rfl)
    (of_decide_eq_true (by kernel_rfl)) (by unfold Func.isWrapper; first | (rw [if_pos (by decide +kernel)]; kernel_rfl) | (rw [if_neg (by decide +kernel)]; exact ⟨rfl, rfl⟩))
    (fun os started H enc _ => lifted os started H enc)

/-- ████ THE STATEMENT ████ -/
theorem proved : Rows.FnUint32OrderMatchesReversedPrefixSaid :=
  over
end Go.Proofs.Qxb6623323a.fnUint32OrderMatchesReversedPrefix
