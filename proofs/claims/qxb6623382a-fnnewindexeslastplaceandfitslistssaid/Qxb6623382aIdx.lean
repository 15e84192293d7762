import Derived.Test.Qxb6623382aNew
namespace Go.Proofs.Qxb6623382a
open Go.ChangeShapes Go.WideShapes Go.ChangeAt Go.RowKit
open Go.Maps

/-! ### The plain law of the map -/
theorem lit_ne {x y : Int} (h : x ≠ y) : (Lit.int .i64 x) ≠ (Lit.int .i64 y) := by
  intro e
  cases e
  exact h rfl

theorem keyLit (x : Int) : WideAt.IsKeyLit (.int .i64 x) := trivial

theorem idx_tidy (N : List Int) (n : Nat) : Tidy (idx N n) := by
  induction n with
  | zero => exact tidy_empty
  | succ n ih => exact ih.put (keyLit _) _

/-- A number that stands at place k is in the map, at its last place. -/
theorem idx_look (N : List Int) (n k : Nat) (hk : k < n) (x : Int) (hx : N.getD k 0 = x) :
    ∃ j, k ≤ j ∧ j < n ∧ N.getD j 0 = x ∧ Maps.has (idx N n) (.int .i64 x) = true ∧ (∀ z, (idx N n).atKey (.int .i64 x) z = .lit (.int .i64 (j : Int))) ∧ ∀ i, j < i → i < n → N.getD i 0 ≠ x := by
  induction n with
  | zero => omega
  | succ n ih =>
    by_cases e : N.getD n 0 = x
    · refine ⟨n, by omega, by omega, e, ?_, fun z => ?_, fun i h1 h2 => by omega⟩
      · simp only [idx]; rw [e]; exact has_put_same (idx_tidy N n).isMap (keyLit _) _
      · simp only [idx]; rw [e]; exact atKey_put_same (idx_tidy N n).isMap (keyLit _) _ _
    · have hkn : k < n := by
        rcases Nat.lt_or_ge k n with h | h
        · exact h
        · obtain rfl : k = n := by omega
          exact absurd hx e
      obtain ⟨j, h1, h2, h3, h4, h5, h6⟩ := ih hkn
      have hne : (Lit.int .i64 x) ≠ (Lit.int .i64 (N.getD n 0)) := lit_ne (fun h => e h.symm)
      refine ⟨j, h1, by omega, h3, ?_, fun z => ?_, fun i hi1 hi2 => ?_⟩
      · simp only [idx]; rw [has_put_other hne]; exact h4
      · simp only [idx]; rw [atKey_put_other hne]; exact h5 z
      · by_cases ei : i = n
        · subst ei; exact e
        · exact h6 i hi1 (by omega)

theorem idx_hasnt (N : List Int) (n : Nat) (v : Int) (h : ∀ i, i < n → N.getD i 0 ≠ v) : Maps.has (idx N n) (.int .i64 v) = false := by
  induction n with
  | zero => rfl
  | succ n ih =>
    simp only [idx]
    rw [has_put_other (lit_ne (fun e => h n (by omega) e.symm))]
    exact ih (fun i hi => h i (by omega))

/-- Is i the last place of its number among the first n? -/
def isLast (N : List Int) (n i : Nat) : Bool := (List.range n).all fun j => decide (j ≤ i) || decide (N.getD j 0 ≠ N.getD i 0)
theorem isLast_iff (N : List Int) (n i : Nat) : isLast N n i = true ↔ ∀ j, i < j → j < n → N.getD j 0 ≠ N.getD i 0 := by
  unfold isLast
  simp only [List.all_eq_true, List.mem_range, Bool.or_eq_true, decide_eq_true_eq]
  constructor
  · intro h j h1 h2
    rcases h j h2 with h | h
    · omega
    · exact h
  · intro h j h2
    by_cases e : j ≤ i
    · exact .inl e
    · exact .inr (h j (by omega) h2)
/-- How many of the first k places are last places. -/
def cntLast (N : List Int) (n k : Nat) : Nat := (List.range k).countP (isLast N n)
theorem cntLast_succ (N : List Int) (n k : Nat) : cntLast N n (k + 1) = cntLast N n k + if isLast N n k then 1 else 0 := by
  simp [cntLast, List.range_succ, List.countP_append, List.countP_singleton]
theorem cntLast_le (N : List Int) (n k : Nat) : cntLast N n k ≤ k := by
  have := List.countP_le_length (p := isLast N n) (l := List.range k)
  simpa [cntLast] using this

theorem isLast_succ (N : List Int) (n i : Nat) (hi : i < n) : isLast N (n + 1) i = (isLast N n i && decide (N.getD n 0 ≠ N.getD i 0)) := by
  rw [Bool.eq_iff_iff]
  simp only [Bool.and_eq_true, decide_eq_true_eq, isLast_iff]
  constructor
  · intro h
    exact ⟨fun j h1 h2 => h j h1 (by omega), h n hi (by omega)⟩
  · rintro ⟨h1, h2⟩ j hj1 hj2
    by_cases e : j = n
    · subst e; exact h2
    · exact h1 j hj1 (by omega)
theorem isLast_self (N : List Int) (n : Nat) : isLast N (n + 1) n = true := by
  rw [isLast_iff]; intro j h1 h2; omega

theorem countP_cong {p q : Nat → Bool} {n : Nat} (h : ∀ i, i < n → p i = q i) : (List.range n).countP p = (List.range n).countP q := by
  induction n with
  | zero => rfl
  | succ n ih =>
    rw [List.range_succ, List.countP_append, List.countP_append, ih (fun i hi => h i (by omega))]
    simp [List.countP_singleton, h n (by omega)]
theorem countP_split (p q : Nat → Bool) (n : Nat) : (List.range n).countP p = (List.range n).countP (fun i => p i && q i) + (List.range n).countP (fun i => p i && !q i) := by
  induction n with
  | zero => rfl
  | succ n ih =>
    rw [List.range_succ, List.countP_append, List.countP_append, List.countP_append, ih]
    simp only [List.countP_singleton]
    cases p n <;> cases q n <;> simp <;> omega

/-- Just one last place of a number that is there. -/
theorem one_last (N : List Int) (n : Nat) (v : Int) : (List.range n).countP (fun i => isLast N n i && !decide (v ≠ N.getD i 0)) = if Maps.has (idx N n) (.int .i64 v) then 1 else 0 := by
  induction n with
  | zero => rfl
  | succ n ih =>
    rw [List.range_succ, List.countP_append]
    have e1 : (List.range n).countP (fun i => isLast N (n + 1) i && !decide (v ≠ N.getD i 0)) = (List.range n).countP (fun i => (isLast N n i && decide (N.getD n 0 ≠ N.getD i 0)) && !decide (v ≠ N.getD i 0)) :=
      countP_cong (fun i hi => by rw [isLast_succ N n i hi])
    rw [e1]
    simp only [List.countP_singleton, isLast_self, Bool.true_and]
    by_cases e : v = N.getD n 0
    · subst e
      have hh : Maps.has (idx N (n + 1)) (.int .i64 (N.getD n 0)) = true := has_put_same (idx_tidy N n).isMap (keyLit _) _
      rw [hh]
      have e2 : (List.range n).countP (fun i => (isLast N n i && decide (N.getD n 0 ≠ N.getD i 0)) && !decide (N.getD n 0 ≠ N.getD i 0)) = (List.range n).countP (fun _ => false) :=
        countP_cong (fun i _ => by cases decide (N.getD n 0 ≠ N.getD i 0) <;> simp)
      rw [e2]
      simp
    · have hh : Maps.has (idx N (n + 1)) (.int .i64 v) = Maps.has (idx N n) (.int .i64 v) := has_put_other (lit_ne e) _
      rw [hh, ← ih]
      have e2 : (List.range n).countP (fun i => (isLast N n i && decide (N.getD n 0 ≠ N.getD i 0)) && !decide (v ≠ N.getD i 0)) = (List.range n).countP (fun i => isLast N n i && !decide (v ≠ N.getD i 0)) := by
        refine countP_cong (fun i _ => ?_)
        by_cases h : v = N.getD i 0
        · have : decide (N.getD n 0 ≠ N.getD i 0) = true := by rw [decide_eq_true_eq, ← h]; exact fun h' => e h'.symm
          rw [this, Bool.and_true]
        · have hd : decide (v ≠ N.getD i 0) = true := decide_eq_true h
          rw [hd]
          simp
      rw [e2]
      have hd : decide (v ≠ N.getD n 0) = true := decide_eq_true e
      rw [hd]
      simp

/-- As many keys as last places. -/
theorem size_idx (N : List Int) (n : Nat) : Maps.size (idx N n) = cntLast N n n := by
  induction n with
  | zero => rfl
  | succ n ih =>
    have h1 := one_last N n (N.getD n 0)
    have h2 := countP_split (isLast N n) (fun i => decide (N.getD n 0 ≠ N.getD i 0)) n
    have h3 : cntLast N (n + 1) (n + 1) = (List.range n).countP (fun i => isLast N n i && decide (N.getD n 0 ≠ N.getD i 0)) + 1 := by
      rw [cntLast_succ, isLast_self]
      unfold cntLast
      rw [countP_cong (fun i hi => isLast_succ N n i hi)]
      simp
    have h4 : cntLast N n n = (List.range n).countP (isLast N n) := rfl
    simp only [idx]
    rw [size_put (idx_tidy N n), ih, h3]
    split at h1
    · rename_i hh
      rw [if_pos hh]; omega
    · rename_i hh
      rw [if_neg hh]; omega

end Go.Proofs.Qxb6623382a
