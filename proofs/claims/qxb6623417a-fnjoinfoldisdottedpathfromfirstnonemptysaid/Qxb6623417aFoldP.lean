import Derived.Test.Qxb6623417aBuf
namespace Go.Proofs.Qxb6623417a
open Go.ChangeShapes Go.WideShapes Go.ChangeAt Go.RowKit

/-! ### The plain law of the fold: no Go in sight -/
/-- The fold of join over the first k segments. -/
def foldJ (S : Nat → ByteArray) : Nat → ByteArray
  | 0 => ByteArray.empty
  | k + 1 => joinS (foldJ S k) (S k)
/-- The law's own count of bytes. -/
def cnt (S : Nat → ByteArray) : Nat → Nat
  | 0 => 0
  | k + 1 => cnt S k + (16 + (S k).size)

theorem cnt_mono (S : Nat → ByteArray) (k n : Nat) (h : k ≤ n) : cnt S k ≤ cnt S n := by
  induction n with
  | zero => obtain rfl : k = 0 := by omega
            exact Nat.le_refl _
  | succ n ih =>
    by_cases e : k = n + 1
    · subst e; exact Nat.le_refl _
    · have := ih (by omega)
      simp only [cnt]
      omega

theorem size_foldJ (S : Nat → ByteArray) (k : Nat) : (foldJ S k).size ≤ cnt S k := by
  induction k with
  | zero => exact Nat.le_refl _
  | succ k ih =>
    have := size_joinS (foldJ S k) (S k)
    simp only [foldJ, cnt]
    omega

theorem foldJ_emp (S : Nat → ByteArray) (k : Nat) (h : ∀ j, j < k → S j = ByteArray.empty) : foldJ S k = ByteArray.empty := by
  induction k with
  | zero => rfl
  | succ k ih =>
    simp only [foldJ]
    rw [ih (fun j hj => h j (by omega)), h k (by omega)]
    rfl

theorem foldJ_first (S : Nat → ByteArray) (k : Nat) (h : foldJ S k = ByteArray.empty) : foldJ S (k + 1) = S k := by
  simp only [foldJ]
  rw [h]
  simp [joinS]

theorem foldJ_next (S : Nat → ByteArray) (k : Nat) (h : ¬ foldJ S k = ByteArray.empty) : foldJ S (k + 1) = foldJ S k ++ ⟨#[46]⟩ ++ S k ∧ ¬ foldJ S (k + 1) = ByteArray.empty := by
  have e : foldJ S (k + 1) = foldJ S k ++ ⟨#[46]⟩ ++ S k := by simp [foldJ, joinS, h]
  refine ⟨e, ?_⟩
  rw [e]
  intro e2
  have := congrArg ByteArray.size e2
  simp only [ByteArray.size_append] at this
  have e1 : (⟨#[46]⟩ : ByteArray).size = 1 := rfl
  have e3 : ByteArray.empty.size = 0 := rfl
  omega

/-- The segments as they lie in memory. -/
def Segs (w : World) (b off n : Nat) (S : Nat → ByteArray) : Prop := ∀ i, i < n → w.cell? ⟨b, off + i, none⟩ = some (.string (S i))

theorem Segs.below {w w' : World} {B b off n : Nat} {S : Nat → ByteArray} (h : Segs w b off n S) (hl : Below B w w') (hb : b < B) : Segs w' b off n S :=
  fun i hi => (hl.cell (p := ⟨b, off + i, none⟩) hb).trans (h i hi)

/-- What zzBytes answers. -/
def Said5 (n : Nat) (S : Nat → ByteArray) (w : World) (e : Ending) (w' : World) : Prop := ∃ t : Bool, e = .returned (.bool t) ∧ (t = true → n ≤ 1048576 ∧ ∀ i, i < n → (S i).size ≤ 1048576) ∧ w' = w

set_option maxHeartbeats 1000000 in
theorem bytes5 (b off n cap : Nat) (S : Nat → ByteArray) (w : World) (hn : n ≤ maxLen) (hS : ∀ i, i < n → (S i).size ≤ maxLen) (hc : Segs w b off n S) :
    Calls Try.prog 5 #[.slice (some ⟨b, off, none⟩) n cap] w (Said5 n S w) := by
  unfold maxLen at hn hS
  go_enter Try.func5, Try.ntmps5
  go_wp2
  · go_ret
    exact ⟨false, rfl, fun h => (by cases h), rfl⟩
  go_loop [3, 4] (fun z i => ∃ (k : Nat) (t : Int), k ≤ n ∧ i = .int .i64 k ∧ z = .int .i64 t ∧ 0 ≤ t ∧ t ≤ 1048576 ∧ ∀ j, j < k → (S j).size ≤ 1048576) (fun _ i => n - (intOf i).toNat)
  case atStart => exact ⟨0, n, Nat.zero_le _, rfl, rfl, by omega, by omega, fun j hj => by omega⟩
  case round =>
    obtain ⟨k, t, hk, rfl, rfl, ht0, ht1, hall⟩ := hrel
    have HA : Hid (∀ j, j < k → (S j).size ≤ 1048576) := hall
    clear hall
    by_cases hlt : k < n
    · have hcell := hc k hlt
      have hsz := hS k hlt
      have HC : Hid (Segs w b off n S) := hc
      clear hc
      go_wp2
      · go_ret
        exact ⟨false, rfl, fun h => (by cases h), rfl⟩
      · go_ret
        exact ⟨false, rfl, fun h => (by cases h), rfl⟩
      · go_round
        case rel =>
          refine ⟨k + 1, _, by omega, by go_num, rfl, by omega, by omega, ?_⟩
          intro j hj
          by_cases e : j = k
          · subst e; omega
          · exact HA.out j (by omega)
        case measure => simp [intOf]; omega
    · go_wp2
      go_ret
      refine ⟨true, rfl, fun _ => ⟨by omega, fun i hi => HA.out i (by omega)⟩, rfl⟩

end Go.Proofs.Qxb6623417a
