/-
  PROOF OF 'Rows.FnUint32ShiftByOneByteSaid': the given shell (proof-skeleton.mjs) with the walk filled in; the callees' contracts lie in Qxb6623323aU32.lean.
-/
import Derived.Test.Qxb6623323aRows
import Derived.WalkKit
import Derived.ProofKit
import Derived.OpenShut
import Derived.ShutString
import Derived.Test.Qxb6623323aU32
namespace Go.Proofs.Qxb6623323a.fnUint32ShiftByOneByte
open Go.ChangeShapes Go.WideShapes Go.ChangeAt Go.RowKit
open Go.ChangeMaps (open_string shut_string)
set_option linter.unusedVariables false      -- a walk need not use every 'w<i>' (that an integer argument fits its kind)

theorem own : ownKnob Try.prog.godebug = none := by kernel_rfl

theorem getElem_tail (s : ByteArray) (i : Nat) (h : i < (s.extract 1 s.size).size) : (s.extract 1 s.size)[i] = s[1 + i]'(by simp at h; omega) := by
  rw [ByteArray.getElem_extract]

/-! ### THE PLAIN LAW -/
theorem low_law (b0 b1 b2 b3 : UInt8) : (le4 b0.toNat b1.toNat b2.toNat b3.toNat % 256 == ((b0.toNat : Nat) : Int)) = true := by
  have h0 := b0.toNat_lt
  rw [beq_iff_eq]
  unfold le4
  omega
theorem shift_law (b0 b1 b2 b3 b4 : UInt8) : (le4 b1.toNat b2.toNat b3.toNat b4.toNat == bits .or .u32 (le4 b0.toNat b1.toNat b2.toNat b3.toNat / 256) ((b4.toNat : Int) * 16777216)) = true := by
  have h0 := b0.toNat_lt
  have h1 := b1.toNat_lt
  have h2 := b2.toNat_lt
  have h3 := b3.toNat_lt
  have h4 := b4.toNat_lt
  have e1 : le4 b0.toNat b1.toNat b2.toNat b3.toNat / 256 = b1.toNat + b2.toNat * 256 + b3.toNat * 65536 := by unfold le4; omega
  rw [e1, u32_or24 _ _ (by omega) (by omega) (by omega) (by omega) (by omega), beq_iff_eq]
  unfold le4
  omega

theorem walk_main (a0 : ByteArray) (w0 : a0.size ≤ maxLen) (w : World) (hs : a0.size ≤ 1048576) (h5 : ¬ a0.size < 5) :
    Calls Try.prog 3 #[.string a0] w fun e w' => e = .returned (.bool true) ∧ Grown w w' := by
  have q4 : (4 : Int) < (a0.size : Int) := by omega
  have q1 : (1 : Int) ≤ (a0.size : Int) := by omega
  have q0 : 0 < a0.size := by omega
  have g4 : a0[4].toNat < 256 := a0[4].toNat_lt
  have g0 : a0[0].toNat < 256 := a0[0].toNat_lt
  have f1 := low_law a0[0] a0[1] a0[2] a0[3]
  have f2 := shift_law a0[0] a0[1] a0[2] a0[3] a0[4]
  have f3 := le4_bd a0[0] a0[1] a0[2] a0[3]
  generalize hN : le4 a0[0].toNat a0[1].toNat a0[2].toNat a0[3].toNat = N at f1 f2 f3
  have HN : Hid (le4 a0[0].toNat a0[1].toNat a0[2].toNat a0[3].toNat = N) := hN
  clear hN
  generalize hM : le4 a0[1].toNat a0[2].toNat a0[3].toNat a0[4].toNat = M at f2
  have HM : Hid (le4 a0[1].toNat a0[2].toNat a0[3].toNat a0[4].toNat = M) := hM
  clear hM
  obtain ⟨f4, f5⟩ := f3
  go_enter Try.func3, Try.ntmps3
  go_wp2_with (first | (go_at_call 5; refine (bytes5 a0 _ w0).mono ?_; rintro x w' ⟨rfl, rfl⟩; rw [decide_eq_true hs]) | (go_at_call_of 6 (Value.string a0); refine (u32_at a0 _ w0 (by omega) N HN.out).mono ?_; rintro x w' ⟨rfl, n1, rfl⟩))
  refine (u32_at (a0.extract 1 a0.size) _ (by unfold maxLen; simp; omega) (by simp; omega) M (by rw [← HM.out]; simp [getElem_tail])).mono ?_
  rintro x w' ⟨rfl, n2, rfl⟩
  go_wp2_with fail
  go_ret
  exact ⟨rfl, grown_drewN (Grown.refl _) _⟩

/-! ### STEP 1: THE WALK: the Go text returns true. 'Grown w w'': the world has at most new blocks (Derived/RowKit3.lean). Part the cases AHEAD of 'go_enter' where a test parts the walk; take each callee by a contract of your own. -/
theorem walk (a0 : ByteArray) (w0 : a0.size ≤ maxLen) (w : World) :
    Calls Try.prog 3 #[.string a0] w fun e w' => e = .returned (.bool true) ∧ Grown w w' := by
  by_cases hs : a0.size ≤ 1048576
  · by_cases h5 : a0.size < 5
    · go_enter Try.func3, Try.ntmps3
      go_wp2_with (go_at_call 5; refine (bytes5 a0 _ w0).mono ?_; rintro x w' ⟨rfl, rfl⟩; rw [decide_eq_true hs])
      go_ret
      exact ⟨rfl, Grown.refl _⟩
    · exact walk_main a0 w0 w hs h5
  · go_enter Try.func3, Try.ntmps3
    go_wp2_with (go_at_call 5; refine (bytes5 a0 _ w0).mono ?_; rintro x w' ⟨rfl, rfl⟩; rw [decide_eq_false hs])
    go_ret
    exact ⟨rfl, Grown.refl _⟩

/-! ### THE ROW's STEP: WRITTEN OUT: LEAVE IT -/
set_option maxRecDepth 100000 in
theorem lifted (os : Os) (started : os.Started) (H : Type) (enc : TypeId × Value → H) :
    ReturnsInHanded {} Try.checked os 3 .any (Rows.fnUint32ShiftByOneByteSpec.pre6 enc Try.prog Try.f3 Rows.fnUint32ShiftByOneByteRow.domain false) (Rows.fnUint32ShiftByOneByteSpec.post enc Try.prog Try.f3 false true false false) := by
  refine returnsInHanded_of_change (C := Try.checked) own started (by kernel_rfl) Try.func3
    (ChangeSpec.witness6 (enc := enc) (C := Try.checked) false ⟨#[], #[.string ByteArray.empty], []⟩ 8 (by kernel_rfl) (by kernel_rfl) (by kernel_rfl) (by kernel_rfl)) ?_
  intro W base args ds gs before hval0 hW hcnd _
  have hval : ∀ (j : Nat) t v, Try.f3.params[j]? = some t → args[j]? = some v → Value.okWide Try.prog W .any base t v := hval0
  have hW' := hW
  obtain ⟨p, q, hA0, hV, rfl, hfz, hnd⟩ := hW
  have hA : DataW.TrodAll enc Try.prog W 0 (fun _ => true) true Try.f3.params.toList args.toList ds p := hA0
  rw [Try.params3] at hA hval
  obtain ⟨v0, vs0, d0, ds0, p0, q0, hargs, rfl, rfl, h0, r0⟩ := trodAll_cons hA
  obtain ⟨rfl, rfl, rfl⟩ := trodAll_nil r0
  obtain rfl : args = #[v0] := by cases args; simp_all
  obtain ⟨rfl, rfl⟩ := trodVars_none hV
  obtain ⟨a0, rfl, rfl, rfl, w0⟩ := open_string Try.underlying9 (hval 0 9 v0 rfl rfl) h0
  clear hA0 hval0
  simp only [List.append_nil] at hW'
  refine (walk a0 w0 W).mono fun e W' ⟨he, hg⟩ => ?_
  subst he
  exact ⟨_, rfl, post_of_same (pa := []) (pv := []) hW' (fun _ _ _ => (trodAll_cons_mk (shut_bool Try.underlying4 _) trodAll_mk0)) (fun sp _ => (trodAll_cons_mk (shut_string Try.underlying9 w0) trodAll_mk0)) (fun _ _ => rfl) rfl
    (hg.frame _) hg.2.1 (ok_one (by kernel_rfl) rfl (okWide_bool_mk Try.underlying4 _))⟩

theorem over : Rows.fnUint32ShiftByOneByteRow.holds Try.pinned (OpenSpec.ofChange Rows.fnUint32ShiftByOneByteSpec) :=
  OpenClaim.holds_of_wide 3 Try.f3 rfl rfl rfl rfl rfl rfl rfl ⟨rfl, rfl, rfl, rfl, rfl⟩ rfl rfl rfl rfl rfl (by kernel_rfl) Try.func3 (by kernel_rfl)
    (of_decide_eq_true (by kernel_rfl)) (by unfold Func.isWrapper; first | (rw [if_pos (by decide +kernel)]; kernel_rfl) | (rw [if_neg (by decide +kernel)]; exact ⟨rfl, rfl⟩))
    (fun os started H enc _ => lifted os started H enc)

/-- ████ THE STATEMENT ████ -/
theorem proved : Rows.FnUint32ShiftByOneByteSaid :=
  over
end Go.Proofs.Qxb6623323a.fnUint32ShiftByOneByte
