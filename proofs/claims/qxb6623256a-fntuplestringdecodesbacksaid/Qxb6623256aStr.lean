import Derived.Test.Qxb6623256aRows
import Derived.WalkKit
import Derived.ProofKit
import Derived.OpenShut
import Derived.ShutString
import Derived.WalkSpells
import Derived.Deep.RegionHeld3
namespace Go.Proofs.Qxb6623256a
open Go.ChangeShapes Go.WideShapes Go.ChangeAt Go.RowKit

theorem not_empty {c : ByteArray} (h : ¬ c = ByteArray.empty) : c.toList.isEmpty = false := by
  rw [ByteArray.toList_eq]
  cases hx : c.data.toList with
  | nil => exact absurd (bytes_inj (b := ByteArray.empty) (by rw [hx]; rfl)) h
  | cons => rfl

/-- Object.String -/
def objS (a b : ByteArray) : ByteArray := a ++ ⟨#[58]⟩ ++ b
/-- User.String -/
def usrS (a b c : ByteArray) : ByteArray := if c = ByteArray.empty then a ++ ⟨#[58]⟩ ++ b else a ++ ⟨#[58]⟩ ++ b ++ ⟨#[35]⟩ ++ c
/-- Tuple.String -/
def tupS (a b r c d e : ByteArray) : ByteArray := objS a b ++ ⟨#[35]⟩ ++ r ++ ⟨#[64]⟩ ++ usrS c d e

theorem size_objS (a b : ByteArray) : (objS a b).size = a.size + b.size + 1 := by
  simp [objS, ByteArray.size_append]
  have : (⟨#[58]⟩ : ByteArray).size = 1 := rfl
  omega

set_option maxHeartbeats 400000 in
theorem obj_calls (a b : ByteArray) (w : World) (ha : a.size ≤ 1048576) (hb : b.size ≤ 1048576) :
    Calls Try.prog 10 #[.agg #[.string a, .string b]] w fun e w' => e = .returned (.string (objS a b)) ∧ w' = w.alloc (.cells #[.string a, .string b] 25) := by
  go_enter Try.func10, Try.ntmps10
  go_wp2
  go_ret
  exact ⟨rfl, rfl⟩

set_option maxHeartbeats 400000 in
theorem usr_calls (a b c : ByteArray) (w : World) (ha : a.size ≤ 1048576) (hb : b.size ≤ 1048576) (hc : c.size ≤ 1048576) :
    Calls Try.prog 11 #[.agg #[.string a, .string b, .string c]] w fun e w' => e = .returned (.string (usrS a b c)) ∧ w' = w.alloc (.cells #[.string a, .string b, .string c] 27) := by
  by_cases h : c = ByteArray.empty
  · subst h
    go_enter Try.func11, Try.ntmps11
    go_wp2
    go_ret
    exact ⟨rfl, rfl⟩
  · have he : usrS a b c = a ++ ⟨#[58]⟩ ++ b ++ ⟨#[35]⟩ ++ c := by simp [usrS, h]
    rw [he]
    have hn : c.toList.isEmpty = false := not_empty h
    go_enter Try.func11, Try.ntmps11
    go_wp2
    go_ret
    exact ⟨rfl, rfl⟩

theorem size_usrS (a b c : ByteArray) : (usrS a b c).size ≤ a.size + b.size + c.size + 2 := by
  have h1 : (⟨#[58]⟩ : ByteArray).size = 1 := rfl
  have h2 : (⟨#[35]⟩ : ByteArray).size = 1 := rfl
  unfold usrS
  split
  · simp only [ByteArray.size_append]; omega
  · simp only [ByteArray.size_append]; omega

set_option maxHeartbeats 1000000 in
theorem tup_calls (a b r c d e : ByteArray) (w : World) (ha : a.size ≤ 1048576) (hb : b.size ≤ 1048576) (hr : r.size ≤ 1048576) (hc : c.size ≤ 1048576) (hd : d.size ≤ 1048576) (he : e.size ≤ 1048576) :
    Calls Try.prog 7 #[.agg #[.string a, .string b, .string r, .string c, .string d, .string e]] w fun x w' => x = .returned (.string (tupS a b r c d e)) ∧ w' = (((w.alloc (.cells #[.string a, .string b, .string r, .string c, .string d, .string e] 29)).alloc (.cells #[.string a, .string b] 25)).alloc (.cells #[.string c, .string d, .string e] 27)).drew := by
  have ht : tupS a b r c d e = objS a b ++ ⟨#[35]⟩ ++ r ++ ⟨#[64]⟩ ++ usrS c d e := rfl
  rw [ht]
  clear ht
  have s1 := Nat.le_of_eq (size_objS a b)
  have s2 := size_usrS c d e
  generalize hO : objS a b = O at s1
  generalize hU : usrS c d e = U at s2
  have HO : Hid (objS a b = O) := hO
  have HU : Hid (usrS c d e = U) := hU
  clear hO hU
  have q1 : ¬ 9223372036854775807 < O.size + 1 := by omega
  have q2 : ¬ 9223372036854775807 < O.size + 1 + r.size := by omega
  have q3 : ¬ 9223372036854775807 < O.size + 1 + r.size + 1 := by omega
  have q4 : ¬ 9223372036854775807 < O.size + 1 + r.size + 1 + U.size := by omega
  go_enter Try.func7, Try.ntmps7
  go_wp2_with fail
  go_region_held3 (fun w' => w'.cell? ⟨w.heap.size, 0, none⟩ = some (.string a) ∧ w'.cell? ⟨w.heap.size, 1, none⟩ = some (.string b) ∧ w'.cell? ⟨w.heap.size, 2, none⟩ = some (.string r) ∧ w'.cell? ⟨w.heap.size, 3, none⟩ = some (.string c) ∧ w'.cell? ⟨w.heap.size, 4, none⟩ = some (.string d) ∧ w'.cell? ⟨w.heap.size, 5, none⟩ = some (.string e)) (go_keep)
    (first | (go_at_call 10; refine (obj_calls a b _ ha hb).mono ?_; rintro e w' ⟨rfl, rfl⟩; rw [HO.out]) | (go_at_call 11; refine (usr_calls c d e _ hc hd he).mono ?_; rintro e w' ⟨rfl, rfl⟩; rw [HU.out]))
  go_wp2
  go_ret
  exact ⟨rfl, rfl⟩

set_option maxHeartbeats 1000000 in
theorem bytes9 (a b r c d e : ByteArray) (w : World) (w0 : a.size ≤ maxLen) (w1 : b.size ≤ maxLen) (w2 : r.size ≤ maxLen) (w3 : c.size ≤ maxLen) (w4 : d.size ≤ maxLen) (w5 : e.size ≤ maxLen) :
    Calls Try.prog 9 #[.string a, .string b, .string r, .string c, .string d, .string e] w fun x w' => ∃ t : Bool, x = .returned (.bool t) ∧ (t = true ↔ a.size + b.size + r.size + c.size + d.size + e.size ≤ 1048576) ∧ w' = w := by
  unfold maxLen at *
  go_enter Try.func9, Try.ntmps9
  go_wp2
  all_goals go_ret
  all_goals exact ⟨_, rfl, by first | (simp; done) | (simp; omega), rfl⟩
set_option maxHeartbeats 1000000 in
theorem bytes5 (a b r c d e : ByteArray) (w : World) (w0 : a.size ≤ maxLen) (w1 : b.size ≤ maxLen) (w2 : r.size ≤ maxLen) (w3 : c.size ≤ maxLen) (w4 : d.size ≤ maxLen) (w5 : e.size ≤ maxLen) :
    Calls Try.prog 5 #[.string a, .string b, .string r, .string c, .string d, .string e] w fun x w' => ∃ t : Bool, x = .returned (.bool t) ∧ (t = true ↔ a.size + b.size + r.size + c.size + d.size + e.size ≤ 1048576) ∧ w' = w := by
  unfold maxLen at *
  go_enter Try.func5, Try.ntmps5
  go_wp2
  all_goals go_ret
  all_goals exact ⟨_, rfl, by first | (simp; done) | (simp; omega), rfl⟩

theorem bytes9_yes (a b r c d e : ByteArray) (w : World) (w0 : a.size ≤ maxLen) (w1 : b.size ≤ maxLen) (w2 : r.size ≤ maxLen) (w3 : c.size ≤ maxLen) (w4 : d.size ≤ maxLen) (w5 : e.size ≤ maxLen) (h : a.size + b.size + r.size + c.size + d.size + e.size ≤ 1048576) :
    Calls Try.prog 9 #[.string a, .string b, .string r, .string c, .string d, .string e] w fun x w' => x = .returned (.bool true) ∧ w' = w := by
  refine (bytes9 a b r c d e w w0 w1 w2 w3 w4 w5).mono ?_
  rintro x w' ⟨t, rfl, ht, rfl⟩
  rw [ht.2 h]
  exact ⟨rfl, rfl⟩
theorem bytes9_no (a b r c d e : ByteArray) (w : World) (w0 : a.size ≤ maxLen) (w1 : b.size ≤ maxLen) (w2 : r.size ≤ maxLen) (w3 : c.size ≤ maxLen) (w4 : d.size ≤ maxLen) (w5 : e.size ≤ maxLen) (h : ¬ a.size + b.size + r.size + c.size + d.size + e.size ≤ 1048576) :
    Calls Try.prog 9 #[.string a, .string b, .string r, .string c, .string d, .string e] w fun x w' => x = .returned (.bool false) ∧ w' = w := by
  refine (bytes9 a b r c d e w w0 w1 w2 w3 w4 w5).mono ?_
  rintro x w' ⟨t, rfl, ht, rfl⟩
  cases t
  · exact ⟨rfl, rfl⟩
  · exact absurd (ht.1 rfl) h

theorem bytes5_yes (a b r c d e : ByteArray) (w : World) (w0 : a.size ≤ maxLen) (w1 : b.size ≤ maxLen) (w2 : r.size ≤ maxLen) (w3 : c.size ≤ maxLen) (w4 : d.size ≤ maxLen) (w5 : e.size ≤ maxLen) (h : a.size + b.size + r.size + c.size + d.size + e.size ≤ 1048576) :
    Calls Try.prog 5 #[.string a, .string b, .string r, .string c, .string d, .string e] w fun x w' => x = .returned (.bool true) ∧ w' = w := by
  refine (bytes5 a b r c d e w w0 w1 w2 w3 w4 w5).mono ?_
  rintro x w' ⟨t, rfl, ht, rfl⟩
  rw [ht.2 h]
  exact ⟨rfl, rfl⟩
theorem bytes5_no (a b r c d e : ByteArray) (w : World) (w0 : a.size ≤ maxLen) (w1 : b.size ≤ maxLen) (w2 : r.size ≤ maxLen) (w3 : c.size ≤ maxLen) (w4 : d.size ≤ maxLen) (w5 : e.size ≤ maxLen) (h : ¬ a.size + b.size + r.size + c.size + d.size + e.size ≤ 1048576) :
    Calls Try.prog 5 #[.string a, .string b, .string r, .string c, .string d, .string e] w fun x w' => x = .returned (.bool false) ∧ w' = w := by
  refine (bytes5 a b r c d e w w0 w1 w2 w3 w4 w5).mono ?_
  rintro x w' ⟨t, rfl, ht, rfl⟩
  cases t
  · exact ⟨rfl, rfl⟩
  · exact absurd (ht.1 rfl) h
end Go.Proofs.Qxb6623256a
