import Derived.Test.Qxb6623382aCpy
namespace Go.Proofs.Qxb6623382a
open Go.ChangeShapes Go.WideShapes Go.ChangeAt Go.RowKit

/-- The elements of a slice of slices, as a list of values. -/
theorem rows_list {p q : Nat → Prop} {w : World} {a : Option Addr} {Xs : List (List Int)} (h : RowsAt p q w a Xs) :
    ∃ us : List Value, us.length = Xs.length ∧ (∀ j, j < Xs.length → ∃ b off, a = some ⟨b, off, none⟩ ∧ p b ∧ w.cell? ⟨b, off + j, none⟩ = some (us.getD j undef)) ∧ Elems q w us Xs Xs.length := by
  refine ⟨(List.range Xs.length).map (fun j => match a with | some ⟨b, off, _⟩ => (w.cell? ⟨b, off + j, none⟩).getD undef | none => undef), by simp, ?_, ?_⟩
  · intro j hj
    obtain ⟨b, off, u, rfl, hp, hc, hu⟩ := h j hj
    refine ⟨b, off, rfl, hp, ?_⟩
    simp [hj, hc]
  · intro j hj
    obtain ⟨b, off, u, rfl, hp, hc, hu⟩ := h j hj
    simpa [hj, hc] using hu

theorem rowP_oneCell {q : Nat → Prop} {w : World} {u : Value} {xs : List Int} (h : RowP q w u xs) : u.oneCell' = true := by
  obtain ⟨a, cap, rfl, _⟩ := h
  rfl
theorem elems_oneCell {q : Nat → Prop} {w : World} {us : List Value} {Xs : List (List Int)} (h : Elems q w us Xs us.length) : ∀ u ∈ us, u.oneCell' = true := by
  intro u hu
  obtain ⟨j, hj, rfl⟩ := List.mem_iff_getElem.1 hu
  have := rowP_oneCell (h j hj)
  simpa [List.getElem?_eq_getElem hj] using this

/-- The cells of a slice of slices, as a source for copy and append. -/
theorem rows_src {p : Nat → Prop} {w w1 : World} {a : Option Addr} {us : List Value} {m : Nat} (hm : us.length = m) (hr : ∀ j, j < m → ∃ b off, a = some ⟨b, off, none⟩ ∧ p b ∧ w.cell? ⟨b, off + j, none⟩ = some (us.getD j undef)) (hs : Same p w w1) (c : Nat) :
    0 < (us.take c).length → ∃ ad, a = some ad ∧ ∀ j v, (us.take c)[j]? = some v → w1.cell? (ad.add j) = some v := by
  intro hpos
  have hpos' : 0 < m := by simp at hpos; omega
  obtain ⟨b, off, hx, _⟩ := hr 0 hpos'
  subst hx
  refine ⟨_, rfl, fun j v hj => ?_⟩
  have hj1 : j < us.length := by
    have := (List.getElem?_eq_some_iff.1 hj).1
    simp at this; omega
  obtain ⟨b', off', hx', hp', hc'⟩ := hr j (by omega)
  simp at hx'
  obtain ⟨rfl, rfl⟩ := hx'
  rw [Addr.add_lit]
  refine ((World.cell?_of_block (a := ⟨b, off + j, none⟩) (hs b hp' (cell_lt hc'))).trans hc').trans ?_
  rw [List.getElem?_take] at hj
  split at hj
  · simp [hj]
  · cases hj

/-- What the list at place j must read as, k places done. -/
def want (n : Int) (Xs : List (List Int)) (k j : Nat) : List Int := if j < k then (Xs.getD j []).filter (okB n) else Xs.getD j []

/-- The copy that fit makes: its block g, its elements elsewhere. -/
def St (B : Nat) (q : Nat → Prop) (n : Nat) (Xs : List (List Int)) (wr : World) (g cap k : Nat) (us : List Value) : Prop :=
  wr.ownsRow B 22 1 (.slice (some ⟨g, 0, none⟩) n cap) n us ∧ ∀ j, j < n → RowP (fun b => b ≠ g ∧ (q b ∨ B ≤ b)) wr (us.getD j undef) (want n Xs k j)

theorem St.skip {B : Nat} {q : Nat → Prop} {n : Nat} {Xs : List (List Int)} {wr : World} {g cap k : Nat} {us : List Value} (h : St B q n Xs wr g cap k us) (hok : (Xs.getD k []).filter (okB n) = Xs.getD k []) : St B q n Xs wr g cap (k + 1) us := by
  refine ⟨h.1, fun j hj => ?_⟩
  have e : want n Xs (k + 1) j = want n Xs k j := by
    unfold want
    by_cases h1 : j < k
    · rw [if_pos h1, if_pos (by omega)]
    · by_cases h2 : j = k
      · subst h2; rw [if_pos (by omega), if_neg (by omega), hok]
      · rw [if_neg h1, if_neg (by omega)]
  rw [e]; exact h.2 j hj

theorem St.store {B : Nat} {q : Nat → Prop} {n : Nat} {Xs : List (List Int)} {wr w1 : World} {g cap k : Nat} {us : List Value} {v : Value} (h : St B q n Xs wr g cap k us) (hk : k < n) (hb : Below wr.heap.size wr w1)
    (hv : RowP (fun b => wr.heap.size ≤ b) w1 v ((Xs.getD k []).filter (okB n))) : St B q n Xs (w1.setCell ⟨g, k, none⟩ v) g cap (k + 1) (us.set k v) := by
  have hg := own_lt h.1
  have hB := own_ge h.1
  have ho := own_keep h.1 (hb.block _ hg)
  refine ⟨(ho.stored k v).1, fun j hj => ?_⟩
  by_cases e : j = k
  · subst e
    have e1 : (us.set j v).getD j undef = v := by simp [own_len h.1, hj]
    have e2 : want n Xs (j + 1) j = (Xs.getD j []).filter (okB n) := by unfold want; rw [if_pos (by omega)]
    rw [e1, e2]
    exact hv.keep (same_set (fun b hb => by omega)) (fun b hb _ => ⟨by omega, .inr (by omega)⟩)
  · have e1 : (us.set k v).getD j undef = us.getD j undef := by simp [Ne.symm e]
    have e2 : want n Xs (k + 1) j = want n Xs k j := by
      unfold want
      by_cases h1 : j < k
      · rw [if_pos h1, if_pos (by omega)]
      · rw [if_neg h1, if_neg (by omega)]
    rw [e1, e2]
    exact ((h.2 j hj).keep (Same.below hb) (fun _ h _ => h)).keep (same_set (fun b hb => hb.1)) (fun _ h _ => h)

theorem St.elem {B : Nat} {q : Nat → Prop} {n : Nat} {Xs : List (List Int)} {wr : World} {g cap k : Nat} {us : List Value} (h : St B q n Xs wr g cap k us) (hk : k < n) :
    ∃ a' cap' xs, wr.cell? ⟨g, k, none⟩ = some (.slice a' xs.length cap') ∧ RowAt (fun b => b ≠ g ∧ (q b ∨ B ≤ b)) wr a' xs ∧ Hid (Xs.getD k [] = xs) := by
  have h1 := h.2 k hk
  have e : want n Xs k k = Xs.getD k [] := by unfold want; rw [if_neg (by omega)]
  rw [e] at h1
  obtain ⟨a', cap', hv, hr⟩ := h1.open
  refine ⟨a', cap', Xs.getD k [], ?_, hr, rfl⟩
  rw [own_cell h.1 hk, hv]

/-- The lists that fit hands back. -/
def fitted (n : Nat) (Xs : List (List Int)) : List (List Int) := (List.range n).map (fun j => (Xs.getD j []).filter (okB n))
theorem fitted_len (n : Nat) (Xs : List (List Int)) : (fitted n Xs).length = n := by simp [fitted]
theorem fitted_at (n : Nat) (Xs : List (List Int)) (j : Nat) (h : j < n) : (fitted n Xs).getD j [] = (Xs.getD j []).filter (okB n) := by simp [fitted, h]

theorem St.done {B : Nat} {q : Nat → Prop} {n : Nat} {Xs : List (List Int)} {wr : World} {g cap : Nat} {us : List Value} (h : St B q n Xs wr g cap n us) : RowsP (fun b => q b ∨ B ≤ b) (fun b => q b ∨ B ≤ b) wr (.slice (some ⟨g, 0, none⟩) n cap) (fitted n Xs) := by
  refine ⟨some ⟨g, 0, none⟩, cap, by rw [fitted_len], fun j hj => ?_⟩
  rw [fitted_len] at hj
  refine ⟨g, 0, us.getD j undef, rfl, .inr (own_ge h.1), by rw [Nat.zero_add]; exact own_cell h.1 hj, ?_⟩
  have e : want n Xs n j = (Xs.getD j []).filter (okB n) := by unfold want; rw [if_pos hj]
  have h1 := h.2 j hj
  rw [e] at h1
  rw [fitted_at n Xs j hj]
  exact h1.keep (fun _ _ _ => rfl) (fun b hb _ => hb.2)

/-- Nothing was to be done. -/
theorem rows_same {p q r : Nat → Prop} {n : Nat} {Xs : List (List Int)} {w : World} {a : Option Addr} {cap : Nat} (h : RowsAt p q w a Xs) (hn : Xs.length = n) (hok : ∀ j, j < n → (Xs.getD j []).filter (okB n) = Xs.getD j []) (hp : ∀ b, p b → r b) (hq : ∀ b, q b → r b) :
    RowsP r r w (.slice a n cap) (fitted n Xs) := by
  refine ⟨a, cap, by rw [fitted_len], fun j hj => ?_⟩
  rw [fitted_len] at hj
  obtain ⟨b, off, u, ha, hpb, hc, hu⟩ := h j (by omega)
  refine ⟨b, off, u, ha, hp b hpb, hc, ?_⟩
  rw [fitted_at n Xs j hj, hok j hj]
  exact hu.keep (fun _ _ _ => rfl) (fun b hb _ => hq b hb)

/-- The start, by append(nil, succ...) or by make and copy: the elements are those of succ, then nil slices. -/
theorem St.start {q : Nat → Prop} {B n : Nat} {Xs : List (List Int)} {w w1 : World} {us cs : List Value} {g cap : Nat} (hB : B = w.heap.size) (he : Elems q w us Xs Xs.length) (hb : Below B w w1)
    (hown : w1.ownsRow B 22 1 (.slice (some ⟨g, 0, none⟩) n cap) n cs) (hcs : ∀ j, j < n → cs.getD j undef = if j < Xs.length then us.getD j undef else .slice none 0 0) (k : Nat) (hok : ∀ j, j < k → (Xs.getD j []).filter (okB n) = Xs.getD j []) :
    St B q n Xs w1 g cap k cs := by
  subst hB
  refine ⟨hown, fun j hj => ?_⟩
  have e : want n Xs k j = Xs.getD j [] := by
    unfold want
    split
    · exact hok j (by assumption)
    · rfl
  rw [e, hcs j hj]
  have hg := own_ge hown
  split
  · rename_i hlt
    exact ((he j hlt).keep (q := fun b => b < w.heap.size ∧ q b) (fun _ _ _ => rfl) (fun b h hl => ⟨hl, h⟩)).keep (Same.below hb) (fun b h _ => ⟨by omega, .inl h.2⟩)
  · rename_i hge
    have e2 : Xs.getD j [] = [] := by simp [List.getElem?_eq_none (Nat.le_of_not_lt hge)]
    rw [e2]
    exact ⟨none, 0, rfl, fun i hi => by simp at hi⟩

end Go.Proofs.Qxb6623382a
