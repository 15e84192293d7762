import Derived.Test.Qxb6623256aIdx
namespace Go.Proofs.Qxb6623256a
open Go.ChangeShapes Go.WideShapes Go.ChangeAt Go.RowKit

/-! ### The plain law: no Go in sight -/
theorem getElem_eq (S : ByteArray) (j : Nat) (hj : j < S.size) {L : List UInt8} (h : S.data.toList = L) (hl : j < L.length) : S[j] = L[j] := by
  subst h; rfl

theorem seg_hit (S : ByteArray) (P M T : List UInt8) (c : UInt8) (h : S.data.toList = P ++ (M ++ c :: T)) (hM : ∀ x, x ∈ M → x ≠ c) (k m : Nat) (hk : k = P.length) (hm : m = P.length + M.length) :
    ∃ hlt : m < S.size, S[m] = c ∧ ∀ (j : Nat) (hj : j < S.size), k ≤ j → j < m → S[j] ≠ c := by
  have hsz : S.size = (P ++ (M ++ c :: T)).length := by rw [← h]; simp
  simp at hsz
  refine ⟨by omega, ?_, ?_⟩
  · rw [getElem_eq S m (by omega) h (by simp; omega)]
    subst hm
    simp
  · intro j hj h1 h2
    rw [getElem_eq S j hj h (by simp; omega)]
    rw [List.getElem_append_right (by omega), List.getElem_append_left (by omega)]
    exact hM _ (List.getElem_mem _)

theorem seg_miss (S : ByteArray) (P M : List UInt8) (c : UInt8) (h : S.data.toList = P ++ M) (hM : ∀ x, x ∈ M → x ≠ c) (k : Nat) (hk : k = P.length) :
    k ≤ S.size ∧ ∀ (j : Nat) (hj : j < S.size), k ≤ j → S[j] ≠ c := by
  have hsz : S.size = (P ++ M).length := by rw [← h]; simp
  simp at hsz
  refine ⟨by omega, ?_⟩
  intro j hj h1
  rw [getElem_eq S j hj h (by simp; omega)]
  rw [List.getElem_append_right (by omega)]
  exact hM _ (List.getElem_mem _)

theorem extract_list (S : ByteArray) (a b : Nat) : (S.extract a b).data.toList = (S.data.toList.take b).drop a := by
  simp [ByteArray.data_extract, List.drop_take]

theorem seg_ext (S : ByteArray) (P M T : List UInt8) (h : S.data.toList = P ++ (M ++ T)) (k m : Nat) (hk : k = P.length) (hm : m = P.length + M.length) (x : ByteArray) (hx : x.data.toList = M) :
    ((S.extract k m).toList == x.toList) = true := by
  rw [ByteArray.toList_eq, ByteArray.toList_eq, extract_list, h, hx]
  subst hk hm
  rw [← List.append_assoc, List.take_left' (by simp), List.drop_left' rfl]
  simp


theorem tup_data_no (a b r c d : ByteArray) : (tupS a b r c d ByteArray.empty).data.toList = a.data.toList ++ ([58] ++ (b.data.toList ++ ([35] ++ (r.data.toList ++ ([64] ++ (c.data.toList ++ ([58] ++ d.data.toList))))))) := by
  simp [tupS, objS, usrS]
theorem tup_data_yes (a b r c d e : ByteArray) (h : ¬ e = ByteArray.empty) : (tupS a b r c d e).data.toList = a.data.toList ++ ([58] ++ (b.data.toList ++ ([35] ++ (r.data.toList ++ ([64] ++ (c.data.toList ++ ([58] ++ (d.data.toList ++ ([35] ++ e.data.toList))))))))) := by
  simp [tupS, objS, usrS, h]

theorem sep_free {s : ByteArray} (h : sepB s = false) : (∀ x, x ∈ s.data.toList → x ≠ 58) ∧ (∀ x, x ∈ s.data.toList → x ≠ 35) ∧ (∀ x, x ∈ s.data.toList → x ≠ 64) := by
  unfold sepB at h
  rw [List.any_eq_false] at h
  refine ⟨?_, ?_, ?_⟩ <;> (intro x hx e; subst e; exact h _ hx (by decide))

theorem ne_int {a b : UInt8} (h : a ≠ b) : ((a.toNat : Int) == b.toNat) = false := by
  rw [beq_eq_false_iff_ne]
  intro e
  exact h (UInt8.toNat_inj.1 (by omega))

/-- One step of the decoder: a segment that ends at c. -/
structure Hit (S : ByteArray) (k m : Nat) (c : Int) (x : ByteArray) : Prop where
  le : k ≤ m
  lt : m < S.size
  hit : (S[m].toNat : Int) = c
  miss : ∀ (j : Nat) (h : j < S.size), k ≤ j → j < m → ((S[j].toNat : Int) == c) = false
  ext : ((S.extract k m).toList == x.toList) = true

theorem hit_of (S : ByteArray) (P T : List UInt8) (x : ByteArray) (c : UInt8) (h : S.data.toList = P ++ (x.data.toList ++ ([c] ++ T))) (hM : ∀ y, y ∈ x.data.toList → y ≠ c) (k m : Nat) (hk : k = P.length) (hm : m = P.length + x.size) :
    Hit S k m (c.toNat : Int) x := by
  have hl : x.data.toList.length = x.size := by simp
  obtain ⟨h1, h2, h3⟩ := seg_hit S P x.data.toList T c h hM k m hk (by omega)
  exact ⟨by omega, h1, by rw [h2], fun j hj a b => ne_int (h3 j hj a b), seg_ext S P _ _ h k m hk (by omega) x rfl⟩

/-- The last segment: nothing behind it. -/
structure Last (S : ByteArray) (k : Nat) (x : ByteArray) : Prop where
  le : k ≤ S.size
  ext : ((S.extract k S.size).toList == x.toList) = true
theorem last_of (S : ByteArray) (P : List UInt8) (x : ByteArray) (h : S.data.toList = P ++ x.data.toList) (k : Nat) (hk : k = P.length) : Last S k x := by
  have hl : x.data.toList.length = x.size := by simp
  have hsz : S.size = (P ++ x.data.toList).length := by rw [← h]; simp
  rw [List.length_append] at hsz
  exact ⟨by omega, seg_ext S P x.data.toList [] (by simpa using h) k S.size hk (by omega) x rfl⟩
theorem miss_of (S : ByteArray) (P : List UInt8) (x : ByteArray) (c : UInt8) (h : S.data.toList = P ++ x.data.toList) (hM : ∀ y, y ∈ x.data.toList → y ≠ c) (k : Nat) (hk : k = P.length) :
    ∀ (j : Nat) (hj : j < S.size), k ≤ j → ((S[j].toNat : Int) == (c.toNat : Int)) = false :=
  fun j hj a => ne_int ((seg_miss S P x.data.toList c h hM k hk).2 j hj a)

/-- All that the decoder meets where the user relation is empty. -/
theorem dec_no (a b r c d : ByteArray) (ha : sepB a = false) (hb : sepB b = false) (hr : sepB r = false) (hc : sepB c = false) (hd : sepB d = false) :
    ∃ i1 i2 i3 i4 : Nat, Hit (tupS a b r c d ByteArray.empty) 0 i1 58 a ∧ Hit (tupS a b r c d ByteArray.empty) (i1 + 1) i2 35 b ∧ Hit (tupS a b r c d ByteArray.empty) (i2 + 1) i3 64 r ∧ Hit (tupS a b r c d ByteArray.empty) (i3 + 1) i4 58 c ∧ Last (tupS a b r c d ByteArray.empty) (i4 + 1) d ∧
      ∀ (j : Nat) (hj : j < (tupS a b r c d ByteArray.empty).size), i4 + 1 ≤ j → (((tupS a b r c d ByteArray.empty)[j].toNat : Int) == 35) = false := by
  have h := tup_data_no a b r c d
  generalize tupS a b r c d ByteArray.empty = S at h
  refine ⟨a.size, a.size + 1 + b.size, a.size + 1 + b.size + 1 + r.size, a.size + 1 + b.size + 1 + r.size + 1 + c.size, ?_, ?_, ?_, ?_, ?_, ?_⟩
  · exact hit_of S [] _ a 58 (by simpa using h) (sep_free ha).1 _ _ (by simp) (by simp)
  · exact hit_of S (a.data.toList ++ [58]) _ b 35 (by rw [h]; simp only [List.append_assoc]; rfl) (sep_free hb).2.1 _ _ (by simp) (by simp)
  · exact hit_of S (a.data.toList ++ [58] ++ b.data.toList ++ [35]) _ r 64 (by rw [h]; simp only [List.append_assoc]; rfl) (sep_free hr).2.2 _ _ (by simp; omega) (by simp; omega)
  · exact hit_of S (a.data.toList ++ [58] ++ b.data.toList ++ [35] ++ r.data.toList ++ [64]) _ c 58 (by rw [h]; simp only [List.append_assoc]; rfl) (sep_free hc).1 _ _ (by simp; omega) (by simp; omega)
  · exact last_of S (a.data.toList ++ [58] ++ b.data.toList ++ [35] ++ r.data.toList ++ [64] ++ c.data.toList ++ [58]) d (by rw [h]; simp) _ (by simp; omega)
  · exact miss_of S (a.data.toList ++ [58] ++ b.data.toList ++ [35] ++ r.data.toList ++ [64] ++ c.data.toList ++ [58]) d 35 (by rw [h]; simp) (sep_free hd).2.1 _ (by simp; omega)

/-- All that the decoder meets where it is not. -/
theorem dec_yes (a b r c d e : ByteArray) (ha : sepB a = false) (hb : sepB b = false) (hr : sepB r = false) (hc : sepB c = false) (hd : sepB d = false) (he : ¬ e = ByteArray.empty) :
    ∃ i1 i2 i3 i4 i5 : Nat, Hit (tupS a b r c d e) 0 i1 58 a ∧ Hit (tupS a b r c d e) (i1 + 1) i2 35 b ∧ Hit (tupS a b r c d e) (i2 + 1) i3 64 r ∧ Hit (tupS a b r c d e) (i3 + 1) i4 58 c ∧ Hit (tupS a b r c d e) (i4 + 1) i5 35 d ∧ Last (tupS a b r c d e) (i5 + 1) e := by
  have h := tup_data_yes a b r c d e he
  generalize tupS a b r c d e = S at h
  refine ⟨a.size, a.size + 1 + b.size, a.size + 1 + b.size + 1 + r.size, a.size + 1 + b.size + 1 + r.size + 1 + c.size, a.size + 1 + b.size + 1 + r.size + 1 + c.size + 1 + d.size, ?_, ?_, ?_, ?_, ?_, ?_⟩
  · exact hit_of S [] _ a 58 (by simpa using h) (sep_free ha).1 _ _ (by simp) (by simp)
  · exact hit_of S (a.data.toList ++ [58]) _ b 35 (by rw [h]; simp only [List.append_assoc]; rfl) (sep_free hb).2.1 _ _ (by simp) (by simp)
  · exact hit_of S (a.data.toList ++ [58] ++ b.data.toList ++ [35]) _ r 64 (by rw [h]; simp only [List.append_assoc]; rfl) (sep_free hr).2.2 _ _ (by simp; omega) (by simp; omega)
  · exact hit_of S (a.data.toList ++ [58] ++ b.data.toList ++ [35] ++ r.data.toList ++ [64]) _ c 58 (by rw [h]; simp only [List.append_assoc]; rfl) (sep_free hc).1 _ _ (by simp; omega) (by simp; omega)
  · exact hit_of S (a.data.toList ++ [58] ++ b.data.toList ++ [35] ++ r.data.toList ++ [64] ++ c.data.toList ++ [58]) _ d 35 (by rw [h]; simp only [List.append_assoc]; rfl) (sep_free hd).2.1 _ _ (by simp; omega) (by simp; omega)
  · exact last_of S (a.data.toList ++ [58] ++ b.data.toList ++ [35] ++ r.data.toList ++ [64] ++ c.data.toList ++ [58] ++ d.data.toList ++ [35]) e (by rw [h]; simp) _ (by simp; omega)

end Go.Proofs.Qxb6623256a
