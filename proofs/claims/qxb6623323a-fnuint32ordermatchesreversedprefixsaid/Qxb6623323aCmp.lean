import Derived.Test.Qxb6623323aU32
import Derived.LoopTactic
namespace Go.Proofs.Qxb6623323a
open Go.ChangeShapes Go.WideShapes Go.ChangeAt Go.RowKit

/-- The number that the first four bytes of s spell. -/
def num (s : ByteArray) (h : 3 < s.size) : Int := le4 s[0].toNat s[1].toNat s[2].toNat s[3].toNat

/-- What three answers mean. -/
def Cmp (r A B : Int) : Prop := (r = -1 ∧ A < B) ∨ (r = 0 ∧ A = B) ∨ (r = 1 ∧ B < A)

/-- All places above m agree. -/
def Agree (a b : ByteArray) (ha : 3 < a.size) (hb : 3 < b.size) (m : Int) : Prop := ∀ (j : Nat) (h : j < 4), m < j → a[j].toNat = b[j].toNat

theorem agree_all (a b : ByteArray) (ha : 3 < a.size) (hb : 3 < b.size) (m : Int) (hm : m < 0) (h : Agree a b ha hb m) : num a ha = num b hb := by
  have h0 := h 0 (by omega) (by omega)
  have h1 := h 1 (by omega) (by omega)
  have h2 := h 2 (by omega) (by omega)
  have h3 := h 3 (by omega) (by omega)
  unfold num
  rw [h0, h1, h2, h3]

theorem agree_next (a b : ByteArray) (ha : 3 < a.size) (hb : 3 < b.size) (k : Nat) (hk : k < 4) (h : Agree a b ha hb k) (e : ((a[k].toNat : Int) == b[k].toNat) = true) : Agree a b ha hb ((k : Int) - 1) := by
  intro j hj hlt
  by_cases hjk : j = k
  · subst hjk
    rw [beq_iff_eq] at e
    omega
  · exact h j hj (by omega)

theorem agree_lt (a b : ByteArray) (ha : 3 < a.size) (hb : 3 < b.size) (k : Nat) (hk : k < 4) (h : Agree a b ha hb k) (e : (a[k].toNat : Int) < b[k].toNat) : num a ha < num b hb := by
  have x0 := a[0].toNat_lt
  have x1 := a[1].toNat_lt
  have x2 := a[2].toNat_lt
  have x3 := a[3].toNat_lt
  have y0 := b[0].toNat_lt
  have y1 := b[1].toNat_lt
  have y2 := b[2].toNat_lt
  have y3 := b[3].toNat_lt
  unfold num le4
  have h1 := fun (g : (k : Int) < 1) => h 1 (by omega) (by omega)
  have h2 := fun (g : (k : Int) < 2) => h 2 (by omega) (by omega)
  have h3 := fun (g : (k : Int) < 3) => h 3 (by omega) (by omega)
  obtain rfl | rfl | rfl | rfl : k = 0 ∨ k = 1 ∨ k = 2 ∨ k = 3 := by omega
  · have := h1 (by omega); have := h2 (by omega); have := h3 (by omega); omega
  · have := h2 (by omega); have := h3 (by omega); omega
  · have := h3 (by omega); omega
  · omega

theorem agree_sym (a b : ByteArray) (ha : 3 < a.size) (hb : 3 < b.size) (m : Int) (h : Agree a b ha hb m) : Agree b a hb ha m := fun j hj hl => (h j hj hl).symm

theorem three_draws (w : World) (a b c : Nat) : ∃ n, ((w.drewN a).drewN b).drewN c = w.drewN n := ⟨a + b + c, by simp [go_sem]⟩

set_option maxRecDepth 100000 in
set_option maxHeartbeats 1000000 in
theorem cmp_calls (a b : ByteArray) (w : World) (wa : a.size ≤ maxLen) (wb : b.size ≤ maxLen) (ha : 3 < a.size) (hb : 3 < b.size) :
    Calls Try.prog 8 #[.string a, .string b] w fun e w' => ∃ r, e = .returned (.int .i64 r) ∧ Cmp r (num a ha) (num b hb) ∧ ∃ n, w' = w.drewN n := by
  unfold maxLen at wa wb
  go_enter Try.func8, Try.ntmps8
  go_wp2
  go_loopw [5] (fun i w' => ∃ (m : Int) (n : Nat), -1 ≤ m ∧ m ≤ 3 ∧ i = .int .i64 m ∧ Agree a b ha hb m ∧ w' = w.drewN n) (fun i _ => (intOf i + 1).toNat)
  case atStart => exact ⟨3, 0, by omega, by omega, rfl, fun j hj hl => by omega, rfl⟩
  case round =>
    obtain ⟨m, n, h1, h2, rfl, hag, rfl⟩ := hrel
    have HA : Hid (Agree a b ha hb m) := hag
    clear hag
    by_cases hm : 0 ≤ m
    · obtain ⟨k, rfl⟩ := Int.eq_ofNat_of_zero_le hm
      have hk : k < 4 := by omega
      have qa : (k : Int) < (a.size : Int) := by omega
      have qb : (k : Int) < (b.size : Int) := by omega
      by_cases c1 : ((a[k].toNat : Int) == b[k].toNat) = true
      · go_wp2
        go_quiet (fail)
        go_wp2
        exact ⟨⟨(k : Int) - 1, n + nq, by omega, by omega, rfl, agree_next a b ha hb k hk HA.out c1, rfl⟩, by simp [intOf]⟩
      · have c1' : ((a[k].toNat : Int) == b[k].toNat) = false := by simpa using c1
        have HN : Hid (¬ (a[k].toNat : Int) = b[k].toNat) := fun e => c1 (beq_iff_eq.2 e)
        clear c1
        by_cases c2 : (a[k].toNat : Int) < b[k].toNat
        · go_wp2
          go_quiet (fail)
          go_wp2
          go_quiet (fail)
          go_wp2
          go_ret
          exact ⟨_, rfl, Or.inl ⟨rfl, agree_lt a b ha hb k hk HA.out c2⟩, three_draws _ _ _ _⟩
        · go_wp2
          go_quiet (fail)
          go_wp2
          go_quiet (fail)
          go_wp2
          go_ret
          exact ⟨_, rfl, Or.inr (Or.inr ⟨rfl, agree_lt b a hb ha k hk (agree_sym a b ha hb k HA.out) (by have := HN.out; omega)⟩), three_draws _ _ _ _⟩
    · go_wp2
      go_ret
      exact ⟨_, rfl, Or.inr (Or.inl ⟨rfl, agree_all a b ha hb m (by omega) HA.out⟩), _, rfl⟩

set_option maxHeartbeats 1000000 in
theorem bytes7 (s t : ByteArray) (w : World) (w0 : s.size ≤ maxLen) (w1 : t.size ≤ maxLen) :
    Calls Try.prog 7 #[.string s, .string t] w fun x w' => x = .returned (.bool (decide (s.size + t.size ≤ 1048576))) ∧ w' = w := by
  unfold maxLen at w0 w1
  by_cases h : s.size + t.size ≤ 1048576
  · rw [decide_eq_true h]
    go_enter Try.func7, Try.ntmps7
    go_wp2
    go_ret
    exact ⟨rfl, rfl⟩
  · rw [decide_eq_false h]
    by_cases h1 : s.size ≤ 1048576
    · by_cases h2 : t.size ≤ 1048576
      · go_enter Try.func7, Try.ntmps7
        go_wp2
        go_ret
        exact ⟨rfl, rfl⟩
      · go_enter Try.func7, Try.ntmps7
        go_wp2
        go_ret
        exact ⟨rfl, rfl⟩
    · go_enter Try.func7, Try.ntmps7
      go_wp2
      go_ret
      exact ⟨rfl, rfl⟩

end Go.Proofs.Qxb6623323a
