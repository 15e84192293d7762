import Derived.Test.Qxb6623382aIdx
namespace Go.Proofs.Qxb6623382a
open Go.ChangeShapes Go.WideShapes Go.ChangeAt Go.RowKit
open Go.Maps

set_option maxRecDepth 100000 in
set_option maxHeartbeats 1000000 in
theorem parts_calls (G M : Nat) (a a3 : Option Addr) (n cap n3 cap3 : Nat) (w : World) (c0 : w.cell? ⟨G, 0, none⟩ = some (.map (some M))) (c1 : w.cell? ⟨G, 1, none⟩ = some (.slice a n cap)) (c2 : w.cell? ⟨G, 2, none⟩ = some (.slice a3 n3 cap3)) :
    Calls Try.prog 8 #[.pointer (some ⟨G, 0, none⟩)] w fun e w' => e = .returned (.tuple #[.map (some M), .slice a n cap, .slice a3 n3 cap3]) ∧ ∃ d, w' = w.drewN d := by
  go_enter Try.func8, Try.ntmps8
  go_wp2
  go_quiet (fail)
  go_wp2
  go_ret3
  exact ⟨rfl, _, rfl⟩

/-- What zzBytes answers. -/
def Said4 (Xs : List (List Int)) (w : World) (e : Ending) (w' : World) : Prop := ∃ t : Bool, e = .returned (.bool t) ∧ (t = true → ∀ xs ∈ Xs, xs.length ≤ 1048576) ∧ w' = w

theorem all_lists {Xs : List (List Int)} {m M : Nat} (hm : Xs.length ≤ m) (h : ∀ j, j < m → (Xs.getD j []).length ≤ M) : ∀ xs ∈ Xs, xs.length ≤ M := by
  intro xs hx
  obtain ⟨j, hj, rfl⟩ := List.mem_iff_getElem.1 hx
  have := h j (by omega)
  simpa [List.getElem?_eq_getElem hj] using this

set_option maxRecDepth 100000 in
set_option maxHeartbeats 2000000 in
theorem bytes4 (p q : Nat → Prop) (a a1 : Option Addr) (n cap m cap1 : Nat) (Xs : List (List Int)) (w : World) (hn : n ≤ maxLen) (hm : m ≤ maxLen) (HL : Hid (Xs.length = m)) (HX : Hid (∀ xs ∈ Xs, xs.length ≤ maxLen)) (HR : Hid (RowsAt p q w a1 Xs)) :
    Calls Try.prog 4 #[.slice a n cap, .slice a1 m cap1] w (Said4 Xs w) := by
  unfold maxLen at hn hm
  go_enter Try.func4, Try.ntmps4
  go_wp2
  · go_ret
    exact ⟨false, rfl, fun h => (by cases h), rfl⟩
  · go_ret
    exact ⟨false, rfl, fun h => (by cases h), rfl⟩
  · go_ret
    exact ⟨false, rfl, fun h => (by cases h), rfl⟩
  go_loop [5, 6] (fun z i => ∃ (k : Nat) (t : Int), k ≤ m ∧ i = .int .i64 k ∧ z = .int .i64 t ∧ 0 ≤ t ∧ t ≤ 1048576 ∧ ∀ j, j < k → (Xs.getD j []).length ≤ 1048576) (fun _ i => m - (intOf i).toNat)
  case atStart => exact ⟨0, _, Nat.zero_le _, rfl, rfl, by omega, by omega, fun j hj => by omega⟩
  case round =>
    obtain ⟨k, t, hk, rfl, rfl, ht0, ht1, hall⟩ := hrel
    have HA : Hid (∀ j, j < k → (Xs.getD j []).length ≤ 1048576) := hall
    clear hall
    by_cases hlt : k < m
    · obtain ⟨b, off, xs, a', cap', rfl, hp, hcell, hrow, HK⟩ := HR.out.at HL.out hlt
      have hsz : xs.length ≤ 9223372036854775807 := by
        have := getD_bd HX.out k
        rw [HK.out] at this
        exact this
      clear hrow
      generalize hlen : xs.length = len at *
      have HLen : Hid (xs.length = len) := hlen
      clear hlen
      go_wp2
      · go_ret
        exact ⟨false, rfl, fun h => (by cases h), rfl⟩
      · go_ret
        exact ⟨false, rfl, fun h => (by cases h), rfl⟩
      · go_round
        case rel =>
          refine ⟨k + 1, _, by omega, by go_num, rfl, by omega, by omega, ?_⟩
          intro j hj
          by_cases e : j = k
          · subst e; rw [HK.out, HLen.out]; omega
          · exact HA.out j (by omega)
        case measure => simp [intOf]; omega
    · go_wp2
      go_ret
      exact ⟨true, rfl, fun _ => all_lists (m := k) (by rw [HL.out]; omega) HA.out, rfl⟩

end Go.Proofs.Qxb6623382a
