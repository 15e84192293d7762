import Derived.Test.Qxb6623323aRows
import Derived.WalkKit
import Derived.ProofKit
import Derived.OpenShut
import Derived.ShutString
import Derived.WalkSpells
import Derived.Lib.EndianBits
import Derived.Deep.QuietTactic
import Derived.BigQuiet
import Derived.Deep.RegionWith
namespace Go.Proofs.Qxb6623323a
open Go.ChangeShapes Go.WideShapes Go.ChangeAt Go.RowKit

/-- The number that four bytes spell, the least first. -/
def le4 (b0 b1 b2 b3 : Int) : Int := b0 + b1 * 256 + b2 * 65536 + b3 * 16777216

set_option maxRecDepth 100000 in
set_option maxHeartbeats 1000000 in
theorem u32_calls (s : ByteArray) (w : World) (hs : s.size ≤ maxLen) (h4 : 3 < s.size) :
    Calls Try.prog 6 #[.string s] w fun e w' => e = .returned (.int .u32 (le4 s[0].toNat s[1].toNat s[2].toNat s[3].toNat)) ∧ ∃ n, w' = w.drewN n := by
  unfold maxLen at hs
  have q0 : 0 < s.size := by omega
  have q1 : (1 : Int) < (s.size : Int) := by omega
  have q2 : (2 : Int) < (s.size : Int) := by omega
  have q3 : (3 : Int) < (s.size : Int) := by omega
  have h0 : s[0].toNat < 256 := s[0].toNat_lt
  have h1 : s[1].toNat < 256 := s[1].toNat_lt
  have h2 : s[2].toNat < 256 := s[2].toNat_lt
  have h3 : s[3].toNat < 256 := s[3].toNat_lt
  go_enter Try.func6, Try.ntmps6
  go_wp2
  go_quiet (fail)
  go_wp2
  go_ret
  refine ⟨?_, _, rfl⟩
  simp (disch := omega) only [u32_or8, u32_or16, u32_or24]
  rfl

theorem le4_bd (b0 b1 b2 b3 : UInt8) : 0 ≤ le4 b0.toNat b1.toNat b2.toNat b3.toNat ∧ le4 b0.toNat b1.toNat b2.toNat b3.toNat < 4294967296 := by
  have h0 := b0.toNat_lt
  have h1 := b1.toNat_lt
  have h2 := b2.toNat_lt
  have h3 := b3.toNat_lt
  unfold le4
  omega

/-- The same, the four bytes given apart. -/
theorem u32_at (s : ByteArray) (w : World) (hs : s.size ≤ maxLen) (h4 : 3 < s.size) (N : Int) (hN : le4 s[0].toNat s[1].toNat s[2].toNat s[3].toNat = N) :
    Calls Try.prog 6 #[.string s] w fun e w' => e = .returned (.int .u32 N) ∧ ∃ n, w' = w.drewN n := by
  subst hN
  exact u32_calls s w hs h4

theorem grown_drewN {W w' : World} (h : Grown W w') (n : Nat) : Grown W (w'.drewN n) := h

set_option maxHeartbeats 1000000 in
theorem bytes5 (s : ByteArray) (w : World) (w0 : s.size ≤ maxLen) :
    Calls Try.prog 5 #[.string s] w fun x w' => x = .returned (.bool (decide (s.size ≤ 1048576))) ∧ w' = w := by
  unfold maxLen at w0
  by_cases h : s.size ≤ 1048576
  · rw [decide_eq_true h]
    go_enter Try.func5, Try.ntmps5
    go_wp2
    go_ret
    exact ⟨rfl, rfl⟩
  · rw [decide_eq_false h]
    go_enter Try.func5, Try.ntmps5
    go_wp2
    go_ret
    exact ⟨rfl, rfl⟩

end Go.Proofs.Qxb6623323a
