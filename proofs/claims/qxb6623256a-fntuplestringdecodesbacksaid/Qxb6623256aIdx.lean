import Derived.Test.Qxb6623256aStr
namespace Go.Proofs.Qxb6623256a
open Go.ChangeShapes Go.WideShapes Go.ChangeAt Go.RowKit

/-- ':', '#' or '@' -/
def isSep (c : UInt8) : Bool := c.toNat == 58 || c.toNat == 35 || c.toNat == 64
/-- zzB1HasSep -/
def sepB (s : ByteArray) : Bool := s.data.toList.any isSep

theorem getElem_list (s : ByteArray) (k : Nat) (h : k < s.size) : s.data.toList[k]'(by simpa using h) = s[k] := rfl
theorem take_snoc (s : ByteArray) (k : Nat) (h : k < s.size) : s.data.toList.take (k + 1) = s.data.toList.take k ++ [s[k]] := by
  rw [List.take_succ_eq_append_getElem (by simpa using h)]; rfl
theorem any_take (s : ByteArray) (k : Nat) (h : k < s.size) (h0 : (s.data.toList.take k).any isSep = false) (h1 : isSep s[k] = false) : (s.data.toList.take (k + 1)).any isSep = false := by
  rw [take_snoc s k h]; simp [h1] at *; exact h0
theorem any_hit (s : ByteArray) (k : Nat) (h : k < s.size) (h1 : isSep s[k] = true) : sepB s = true := by
  unfold sepB
  rw [List.any_eq_true]
  exact ⟨s[k], by rw [← getElem_list s k h]; exact List.getElem_mem _, h1⟩
theorem any_done (s : ByteArray) (k : Nat) (hk : s.size ≤ k) (h0 : (s.data.toList.take k).any isSep = false) : sepB s = false := by
  unfold sepB
  rwa [List.take_of_length_le (by simpa using hk)] at h0

theorem sep_1 {c : UInt8} (h : (c.toNat : Int) = 58) : isSep c = true := by
  have : c.toNat = 58 := by omega
  simp [isSep, this]
theorem sep_2 {c : UInt8} (h : (c.toNat : Int) = 35) : isSep c = true := by
  have : c.toNat = 35 := by omega
  simp [isSep, this]
theorem sep_3 {c : UInt8} (h : (((c.toNat : Int) == 58) = true ∨ ((c.toNat : Int) == 35) = true) ∨ ((c.toNat : Int) == 64) = true) : isSep c = true := by
  simp only [beq_iff_eq] at h
  simp only [isSep, Bool.or_eq_true, beq_iff_eq]
  omega
theorem sep_4 {c : UInt8} (h : (((c.toNat : Int) == 58) = false ∧ ((c.toNat : Int) == 35) = false) ∧ ((c.toNat : Int) == 64) = false) : isSep c = false := by
  simp only [beq_eq_false_iff_ne] at h
  simp only [isSep, Bool.or_eq_false_iff, beq_eq_false_iff_ne]
  omega

set_option maxHeartbeats 400000 in
theorem sep_calls (s : ByteArray) (w : World) (hs : s.size ≤ maxLen) :
    Calls Try.prog 6 #[.string s] w fun e w' => e = .returned (.bool (sepB s)) ∧ w' = w := by
  unfold maxLen at hs
  go_enter Try.func6, Try.ntmps6
  go_wp2
  go_loop [3] (fun i => ∃ k : Nat, k ≤ s.size ∧ i = .int .i64 k ∧ (s.data.toList.take k).any isSep = false) (fun i => s.size - (intOf i).toNat)
  case atStart => exact ⟨0, Nat.zero_le _, rfl, rfl⟩
  case round =>
    obtain ⟨k, hk, rfl, h0⟩ := hrel
    have H0 : Hid ((s.data.toList.take k).any isSep = false) := h0
    clear h0
    by_cases hlt : k < s.size
    · have hA := any_take s k hlt H0.out
      have hB := any_hit s k hlt
      have HA : Hid (isSep s[k] = false → (s.data.toList.take (k + 1)).any isSep = false) := hA
      have HB : Hid (isSep s[k] = true → sepB s = true) := hB
      clear hA hB
      go_wp2
      · go_ret
        exact ⟨by rw [HB.out (sep_1 (by assumption))]; rfl, rfl⟩
      · go_ret
        exact ⟨by rw [HB.out (sep_2 (by assumption))]; rfl, rfl⟩
      · go_ret
        exact ⟨by rw [HB.out (sep_3 (by assumption))]; rfl, rfl⟩
      · go_round
        case rel => exact ⟨k + 1, by omega, by go_num, HA.out (sep_4 (by assumption))⟩
        case measure => simp [intOf]; omega
    · have hC := any_done s k (by omega) H0.out
      have HC : Hid (sepB s = false) := hC
      clear hC
      go_wp2
      go_ret
      exact ⟨by rw [HC.out]; rfl, rfl⟩

set_option maxHeartbeats 400000 in
theorem idx_hit (s : ByteArray) (k m : Nat) (f c : Int) (w : World) (hs : s.size ≤ maxLen) (hf : f = k) (hkm : k ≤ m) (hm : m < s.size) (hit : (s[m].toNat : Int) = c) (miss : ∀ (j : Nat) (h : j < s.size), k ≤ j → j < m → ((s[j].toNat : Int) == c) = false) :
    Calls Try.prog 8 #[.string s, .int .i64 f, .int .u8 c] w fun e w' => e = .returned (.int .i64 m) ∧ w' = w := by
  unfold maxLen at hs
  subst hf hit
  have MI : Hid (∀ (j : Nat) (h : j < s.size), k ≤ j → j < m → ((s[j].toNat : Int) == s[m].toNat) = false) := miss
  clear miss
  go_enter Try.func8, Try.ntmps8
  go_wp2
  go_loop [7] (fun i => ∃ j : Nat, k ≤ j ∧ j ≤ m ∧ i = .int .i64 j) (fun i => s.size - (intOf i).toNat)
  case atStart => exact ⟨k, Nat.le_refl _, hkm, rfl⟩
  case round =>
    obtain ⟨j, hkj, hjm, rfl⟩ := hrel
    have hjs : j < s.size := by omega
    by_cases hlt : j < m
    · have hmiss := MI.out j hjs hkj hlt
      go_wp2
      go_round
      case rel => exact ⟨j + 1, by omega, by omega, by go_num⟩
      case measure => simp [intOf]; omega
    · obtain rfl : j = m := by omega
      go_wp2
      go_ret
      exact ⟨rfl, rfl⟩

set_option maxHeartbeats 400000 in
theorem idx_miss (s : ByteArray) (k : Nat) (f c : Int) (w : World) (hs : s.size ≤ maxLen) (hf : f = k) (hk : k ≤ s.size) (miss : ∀ (j : Nat) (h : j < s.size), k ≤ j → ((s[j].toNat : Int) == c) = false) :
    Calls Try.prog 8 #[.string s, .int .i64 f, .int .u8 c] w fun e w' => e = .returned (.int .i64 (-1)) ∧ w' = w := by
  unfold maxLen at hs
  subst hf
  have MI : Hid (∀ (j : Nat) (h : j < s.size), k ≤ j → ((s[j].toNat : Int) == c) = false) := miss
  clear miss
  go_enter Try.func8, Try.ntmps8
  go_wp2
  go_loop [7] (fun i => ∃ j : Nat, k ≤ j ∧ j ≤ s.size ∧ i = .int .i64 j) (fun i => s.size - (intOf i).toNat)
  case atStart => exact ⟨k, Nat.le_refl _, hk, rfl⟩
  case round =>
    obtain ⟨j, hkj, hjm, rfl⟩ := hrel
    by_cases hlt : j < s.size
    · have hmiss := MI.out j hlt hkj
      go_wp2
      go_round
      case rel => exact ⟨j + 1, by omega, by omega, by go_num⟩
      case measure => simp [intOf]; omega
    · go_wp2
      go_ret
      exact ⟨rfl, rfl⟩

end Go.Proofs.Qxb6623256a
