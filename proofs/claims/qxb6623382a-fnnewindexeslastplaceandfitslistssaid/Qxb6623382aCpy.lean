import Derived.Test.Qxb6623382aBel
namespace Go.Proofs.Qxb6623382a
open Go.ChangeShapes Go.WideShapes Go.ChangeAt Go.RowKit

def RowsAt (p q : Nat → Prop) (w : World) (a : Option Addr) (Xs : List (List Int)) : Prop := ∀ j, j < Xs.length → ∃ b off u, a = some ⟨b, off, none⟩ ∧ p b ∧ w.cell? ⟨b, off + j, none⟩ = some u ∧ RowP q w u (Xs.getD j [])
theorem RowsP.open {p q : Nat → Prop} {w : World} {v : Value} {Xs : List (List Int)} (h : RowsP p q w v Xs) : ∃ a cap, v = .slice a Xs.length cap ∧ RowsAt p q w a Xs := h
theorem RowsAt.close {p q : Nat → Prop} {w : World} {a : Option Addr} {Xs : List (List Int)} (h : RowsAt p q w a Xs) (cap n : Nat) (hn : Xs.length = n) : RowsP p q w (.slice a n cap) Xs := by subst hn; exact ⟨a, cap, rfl, h⟩
theorem RowsAt.at {p q : Nat → Prop} {w : World} {a : Option Addr} {Xs : List (List Int)} (h : RowsAt p q w a Xs) {n k : Nat} (hn : Xs.length = n) (hk : k < n) :
    ∃ b off xs a' cap', a = some ⟨b, off, none⟩ ∧ p b ∧ w.cell? ⟨b, off + k, none⟩ = some (.slice a' xs.length cap') ∧ RowAt q w a' xs ∧ Hid (Xs.getD k [] = xs) := by
  obtain ⟨b, off, u, ha, hp, hc, hu⟩ := h k (by omega)
  obtain ⟨a', cap', rfl, hr⟩ := hu.open
  exact ⟨b, off, _, a', cap', ha, hp, hc, hr, rfl⟩
theorem RowsAt.keep {p q : Nat → Prop} {w w' : World} {a : Option Addr} {Xs : List (List Int)} (h : RowsAt p q w a Xs) (hs : Same (fun b => p b ∨ q b) w w') : RowsAt p q w' a Xs := by
  intro j hj
  obtain ⟨b, off, u, ha, hp, hc, hu⟩ := h j hj
  exact ⟨b, off, u, ha, hp, (World.cell?_of_block (a := ⟨b, off + j, none⟩) (hs b (.inl hp) (cell_lt hc))).trans hc, hu.keep (fun b hb => hs b (.inr hb)) (fun _ h _ => h)⟩

/-- An owned row reads on where its block has not turned. -/
theorem own_keep {w w' : World} {B e g n cap : Nat} {us : List Value} (h : w.ownsRow B e 1 (.slice (some ⟨g, 0, none⟩) n cap) n us) (hb : w'.heap[g]? = w.heap[g]?) : w'.ownsRow B e 1 (.slice (some ⟨g, 0, none⟩) n cap) n us := by
  refine ⟨h.1, ?_⟩
  rcases h.2 with h' | ⟨g', cap', cur, h', hB, hg, rest⟩
  · exact .inl h'
  · refine .inr ⟨g', cap', cur, h', hB, ?_, rest⟩
    simp only [Value.slice.injEq, Option.some.injEq, Addr.mk.injEq, and_true, true_and] at h'
    obtain ⟨rfl, rfl⟩ := h'
    rw [hb]; exact hg
theorem own_lt {w : World} {B e g n cap : Nat} {us : List Value} (h : w.ownsRow B e 1 (.slice (some ⟨g, 0, none⟩) n cap) n us) : g < w.heap.size := (h.lt g rfl).2
theorem own_ge {w : World} {B e g n cap : Nat} {us : List Value} (h : w.ownsRow B e 1 (.slice (some ⟨g, 0, none⟩) n cap) n us) : B ≤ g := (h.lt g rfl).1
theorem own_len {w : World} {B e g n cap : Nat} {us : List Value} (h : w.ownsRow B e 1 (.slice (some ⟨g, 0, none⟩) n cap) n us) : us.length = n := by simpa using h.1
theorem own_cell {w : World} {B e g n cap : Nat} {us : List Value} (h : w.ownsRow B e 1 (.slice (some ⟨g, 0, none⟩) n cap) n us) {k : Nat} (hk : k < n) : w.cell? ⟨g, k, none⟩ = some (us.getD k undef) := by
  rw [h.cellAt k (by omega)]
  have := own_len h
  simp [List.getElem?_eq_getElem (show k < us.length by omega)]
theorem same_set {p : Nat → Prop} {w : World} {g k : Nat} {v : Value} (hp : ∀ b, p b → b ≠ g) : Same p w (w.setCell ⟨g, k, none⟩ v) := fun b hb _ => heap_setCell_other w ⟨g, k, none⟩ b v (hp b hb)

/-- The elements of an owned row, each a row of its own. -/
def Elems (q : Nat → Prop) (w : World) (us : List Value) (Xs : List (List Int)) (k : Nat) : Prop := ∀ j, j < k → RowP q w (us.getD j undef) (Xs.getD j [])
theorem Elems.keep {q : Nat → Prop} {w w' : World} {us : List Value} {Xs : List (List Int)} {k : Nat} (h : Elems q w us Xs k) (hs : Same q w w') : Elems q w' us Xs k := fun j hj => (h j hj).keep hs (fun _ h _ => h)
theorem Elems.close {B : Nat} {q : Nat → Prop} {w : World} {g n cap : Nat} {us : List Value} {Xs : List (List Int)} (h : w.ownsRow B 22 1 (.slice (some ⟨g, 0, none⟩) n cap) n us) (he : Elems q w us Xs n) (hn : Xs.length = n) : RowsP (fun b => B ≤ b) q w (.slice (some ⟨g, 0, none⟩) n cap) Xs := by
  subst hn
  refine ⟨_, cap, rfl, fun j hj => ⟨g, 0, _, rfl, own_ge h, ?_, he j hj⟩⟩
  rw [Nat.zero_add]
  exact own_cell h hj
theorem Elems.set {q : Nat → Prop} {w : World} {us : List Value} {Xs : List (List Int)} {k : Nat} {v : Value} (h : Elems q w us Xs k) (hk : k < us.length) (hv : RowP q w v (Xs.getD k [])) : Elems q w (us.set k v) Xs (k + 1) := by
  intro j hj
  by_cases e : j = k
  · subst e
    have : (us.set j v).getD j undef = v := by simp [hk]
    rw [this]; exact hv
  · have : (us.set k v).getD j undef = us.getD j undef := by simp [Ne.symm e]
    rw [this]; exact h j (by omega)

set_option maxHeartbeats 1000000 in
theorem copyLists_calls (p q : Nat → Prop) (v : Value) (Xs : List (List Int)) (w : World) (h : RowsP p q w v Xs) (hsz : Xs.length ≤ 1048576) (hin : ∀ xs ∈ Xs, xs.length ≤ 1048576) :
    Calls Try.prog 6 #[v] w fun e w' => ∃ v', e = .returned v' ∧ RowsP (fun b => w.heap.size ≤ b) (fun b => w.heap.size ≤ b) w' v' Xs ∧ Below w.heap.size w w' := by
  obtain ⟨i0, hi, hz0, hz1, hz2⟩ := info_parts Try.info22
  obtain ⟨a, cap, rfl, hr⟩ := h.open
  have HR : Hid (RowsAt p q w a Xs) := hr
  have HI : Hid (∀ xs ∈ Xs, xs.length ≤ 1048576) := hin
  clear hr h hin
  generalize hl : Xs.length = n at *
  have HL : Hid (Xs.length = n) := hl
  clear hl
  cases a with
  | none =>
    have h0 : n = 0 := by
      rcases Nat.eq_zero_or_pos n with h0 | h0
      · exact h0
      · obtain ⟨b, off, _, _, _, ha, _⟩ := HR.out.at HL.out h0
        cases ha
    subst h0
    have hX : Xs = [] := List.eq_nil_of_length_eq_zero HL.out
    subst hX
    have hq := fun (w : World) => Lib.run_eql_slice_nil (P := Try.prog) w 23 22 none 0 cap 0 0 Try.underlying23
    go_enter Try.func6, Try.ntmps6
    go_wp2
    go_ret
    exact ⟨_, rfl, ⟨none, 0, rfl, fun j hj => by simp at hj⟩, Below.refl _ _⟩
  | some x =>
    have hq := fun (w : World) => Lib.run_eql_slice_nil (P := Try.prog) w 23 22 (some x) n cap 0 0 Try.underlying23
    have hB' : w.heap.size ≤ w.heap.size := Nat.le_refl _
    go_enter Try.func6, Try.ntmps6
    go_wp2_with (at_make; refine wpList_make_full _ rfl (.tmp 8) (.tmp 8) 23 rfl w.heap.size 22 i0 (.slice none 0 0) 1 Try.underlying23 hi hz0 hz1 .i64 .i64 _ _ n rfl rfl rfl rfl (by rw [hz2]; omega) (by unfold maxLen; omega) hB' ?_; intro w1 hown hgrow)
    have hb1 : Below w.heap.size w w1 := (Below.refl _ w).grown hgrow (Nat.le_refl _) (fun k hk => by cases hk)
    clear hgrow hq
    go_loopw [4] (fun i wr => ∃ (k : Nat) (us : List Value), k ≤ n ∧ i = .int .i64 k ∧ wr.ownsRow w.heap.size 22 1 (.slice (some ⟨w.heap.size, 0, none⟩) n n) n us ∧ Elems (fun b => w.heap.size < b) wr us Xs k ∧ Below w.heap.size w wr) (fun i _ => n - (intOf i).toNat)
    case atStart => exact ⟨0, _, Nat.zero_le _, rfl, hown, fun j hj => by omega, hb1⟩
    case round =>
      obtain ⟨k, us, hk, rfl, hown1, helem, hbel⟩ := hrel
      by_cases hlt : k < n
      · obtain ⟨b, off, xs, a', cap', hx, hp, hcell0, hrow0, HX⟩ := HR.out.at HL.out hlt
        obtain rfl : x = ⟨b, off, none⟩ := by simpa using hx
        clear hx
        have hbw : b < w.heap.size := cell_lt hcell0
        have hcell : _ := (hbel.cell (p := ⟨b, off + k, none⟩) hbw).trans hcell0
        have hrow := hrow0.keep (Same.below hbel)
        have hxl : xs.length ≤ 1048576 := by
          rw [← HX.out]
          refine HI.out _ ?_
          rw [List.getD_eq_getElem?_getD, List.getElem?_eq_getElem (by rw [HL.out]; exact hlt)]
          exact List.getElem_mem _
        have HRow : Hid (RowAt q wr a' xs) := hrow
        have HO : Hid (wr.ownsRow w.heap.size 22 1 (.slice (some ⟨w.heap.size, 0, none⟩) n n) n us) := hown1
        have HE : Hid (Elems (fun b => w.heap.size < b) wr us Xs k) := helem
        clear hcell0 hrow0 hrow hown1 helem
        go_wp2_with fail
        refine (copyInts_calls q _ xs _ (HRow.out.close cap' _ rfl) hxl).mono ?_
        rintro e w2 ⟨v', rfl, hv', hb2⟩
        obtain ⟨a2, cap2, rfl, hr2⟩ := hv'.open
        have ho2 := own_keep HO.out (hb2.block _ (own_lt HO.out))
        have hold := own_cell ho2 hlt
        have hfz := ho2.frozenAt k
        have HO2 : Hid (w2.ownsRow w.heap.size 22 1 (.slice (some ⟨w.heap.size, 0, none⟩) n n) n us) := ho2
        have HR2 : Hid (RowAt (fun b => wr.heap.size ≤ b) w2 a2 xs) := hr2
        clear ho2 hr2 hv'
        go_wp2_with fail
        have hst := (HO2.out.stored k (.slice a2 xs.length cap2))
        have hltw := own_lt HO.out
        have he2 : Elems (fun b => w.heap.size < b) (w2.setCell ⟨w.heap.size, k, none⟩ (.slice a2 xs.length cap2)) (us.set k (.slice a2 xs.length cap2)) Xs (k + 1) := by
          refine Elems.set ((HE.out.keep (Same.below hb2)).keep (same_set (fun b hb => by omega))) (by rw [own_len HO.out]; exact hlt) ?_
          rw [HX.out]
          exact ((HR2.out.close cap2 _ rfl).keep (same_set (fun b hb => by omega)) (fun b hb _ => by omega))
        go_roundw
        case rel => exact ⟨k + 1, _, by omega, by go_num, hst.1, he2, (hbel.trans (hb2.mono (by omega))).trans ((Below.refl w.heap.size w2).setCell (p := ⟨w.heap.size, k, none⟩) (Nat.le_refl _) _)⟩
        case measure => simp [intOf]; omega
      · go_wp2_with fail
        go_ret
        obtain rfl : k = n := by omega
        refine ⟨_, rfl, ?_, hbel⟩
        exact (Elems.close hown1 helem HL.out).keep (fun _ _ _ => rfl) (fun b hb _ => hb) (fun b hb _ => Nat.le_of_lt hb)

end Go.Proofs.Qxb6623382a
