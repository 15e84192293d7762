import Derived.Test.Qxb6623382aFitP
namespace Go.Proofs.Qxb6623382a
open Go.ChangeShapes Go.WideShapes Go.ChangeAt Go.RowKit

theorem getD_bd {Xs : List (List Int)} {M : Nat} (h : ∀ xs ∈ Xs, xs.length ≤ M) (k : Nat) : (Xs.getD k []).length ≤ M := by
  by_cases hk : k < Xs.length
  · rw [List.getD_eq_getElem?_getD, List.getElem?_eq_getElem hk]
    exact h _ (List.getElem_mem _)
  · simp [List.getElem?_eq_none (Nat.le_of_not_lt hk)]
theorem all_next {n : Int} {xs : List Int} {m : Nat} {x : Int} (h : ∀ j, j < m → okB n (xs.getD j 0) = true) (hx : xs.getD m 0 = x) (ho : okB n x = true) : ∀ j, j < m + 1 → okB n (xs.getD j 0) = true := by
  intro j hj
  by_cases e : j = m
  · subst e; rw [hx]; exact ho
  · exact h j (by omega)
theorem all_filter {n : Int} {xs : List Int} (h : ∀ j, j < xs.length → okB n (xs.getD j 0) = true) : xs.filter (okB n) = xs := by
  rw [List.filter_eq_self]
  intro x hx
  obtain ⟨j, hj, rfl⟩ := List.mem_iff_getElem.1 hx
  have := h j hj
  simpa [List.getElem?_eq_getElem hj] using this

/-- Behind 'below': what the store finds, and what it leaves. -/
theorem St.behind {B : Nat} {q : Nat → Prop} {n : Nat} {Xs : List (List Int)} {w wr w1 : World} {g cap k : Nat} {us : List Value} {v : Value} (h : St B q n Xs wr g cap k us) (hk : k < n) (hb : Below wr.heap.size wr w1)
    (hv : RowP (fun b => wr.heap.size ≤ b) w1 v ((Xs.getD k []).filter (okB n))) (hbel : Below B w wr) :
    Hid (St B q n Xs (w1.setCell ⟨g, k, none⟩ v) g cap (k + 1) (us.set k v)) ∧ w1.cell? ⟨g, k, none⟩ = some (us.getD k undef) ∧ w1.frozen? ⟨g, k, none⟩ = false ∧ ∃ a3 cap3 l3, v = .slice a3 l3 cap3 ∧ Hid (Below B w (w1.setCell ⟨g, k, none⟩ v)) := by
  have hg := own_lt h.1
  have hB := own_ge h.1
  have ho := own_keep h.1 (hb.block _ hg)
  obtain ⟨a3, cap3, rfl, _⟩ := hv.open
  refine ⟨h.store hk hb hv, own_cell ho hk, ho.frozenAt k, a3, cap3, _, rfl, ?_⟩
  exact (hbel.trans (hb.mono (by omega))).setCell (p := ⟨g, k, none⟩) hB _

theorem hide5 {P : Prop} (h : P) : Hid P := h
/-- The start by make and copy. -/
theorem splice_start {q : Nat → Prop} {n len0 : Nat} {Xs : List (List Int)} {w w2 : World} {us0 cs cur : List Value} {B : Nat} (hB : B = w.heap.size) (he : Elems q w us0 Xs Xs.length) (hb : Below B w w2) (hg : w2.heap[B]? = some (.cells (splice cur 0 cs).toArray 22 (0, 0))) (hcl : cur.length = n)
    (hct : n ≤ n ∧ B ≤ B ∧ cur.take n = (madeCells (Value.slice none 0 0).cells (n * 1)).toList) (hu : us0.length = len0) (hl : Xs.length = len0) (hcs : us0.take n = cs) (hn : n ≤ 1048576) : St B q n Xs w2 B n 0 (splice cur 0 cs) := by
  have hcur : cur = List.replicate n (.slice none 0 0) := by
    have h := hct.2.2
    rw [List.take_of_length_le (by omega)] at h
    rw [h]
    have e : (Value.slice none 0 0).cells = #[.slice none 0 0] := rfl
    rw [e, toList_madeCells_one, Nat.mul_one]
  have hsl : (splice cur 0 cs).length = n := by rw [length_splice _ _ _ (by rw [← hcs]; simp; omega)]; exact hcl
  have hown : w2.ownsRow B 22 1 (.slice (some ⟨B, 0, none⟩) n n) n (splice cur 0 cs) :=
    ⟨by rw [hsl]; simp, .inr ⟨B, n, _, rfl, Nat.le_refl _, hg, Nat.le_refl _, by unfold maxLen; omega, by simp [hsl], by rw [List.take_of_length_le (by simp [hsl])]⟩⟩
  refine St.start hB he hb hown ?_ 0 (fun j hj => by omega)
  intro j hj
  rw [hl]
  have hcsl : cs.length = min n len0 := by rw [← hcs]; simp [hu]
  unfold splice
  by_cases h : j < len0
  · rw [if_pos h]
    have hj1 : j < cs.length := by omega
    simp only [List.take_zero, List.nil_append]
    rw [List.getD_eq_getElem?_getD, List.getElem?_append_left hj1, ← hcs, List.getElem?_take, if_pos hj, ← List.getD_eq_getElem?_getD]
  · rw [if_neg h]
    simp only [List.take_zero, List.nil_append]
    have hle : cs.length ≤ j := by omega
    have he2 : 0 + cs.length + (j - cs.length) = j := by omega
    rw [List.getD_eq_getElem?_getD, List.getElem?_append_right hle, hcur, List.getElem?_drop, he2]
    simp [hj]

set_option maxRecDepth 100000 in
set_option maxHeartbeats 4000000 in
theorem fit_ne (p q : Nat → Prop) (a : Option Addr) (len0 cap : Nat) (Xs : List (List Int)) (n : Nat) (w : World) (HR : Hid (RowsAt p q w a Xs)) (HL : Hid (Xs.length = len0)) (hn : n ≤ 1048576) (HI : Hid (∀ xs ∈ Xs, xs.length ≤ 1048576)) (hne : ¬ len0 = n) :
    Calls Try.prog 9 #[.slice a len0 cap, .int .i64 n] w fun e w' => ∃ v', e = .returned v' ∧ RowsP (fun b => (p b ∨ q b) ∨ w.heap.size ≤ b) (fun b => (p b ∨ q b) ∨ w.heap.size ≤ b) w' v' (fitted n Xs) ∧ Below w.heap.size w w' := by
  obtain ⟨i0, hi, hz0, hz1, hz2⟩ := info_parts Try.info22
  obtain ⟨us0, hul, husrc, huel⟩ := rows_list HR.out
  have hne' : ((len0 : Int) == (n : Int)) = false := by rw [beq_eq_false_iff_ne]; omega
  have HU : Hid (us0.length = len0) := hul.trans HL.out
  have HE : Hid (Elems q w us0 Xs Xs.length) := huel
  have HK : Hid (∀ w1 : World, w.grownBy w1 none → 0 < (us0.take n).length → ∃ ad, a = some ad ∧ ∀ j v, (us0.take n)[j]? = some v → w1.cell? (ad.add j) = some v) :=
    fun w1 hg => rows_src hul husrc (Same.grown hg (fun _ _ => by simp)) n
  have H1 : Hid (∀ u ∈ us0.take n, u.oneCell' = true) := fun u hu => elems_oneCell (by rw [hul]; exact huel) u (List.mem_of_mem_take hu)
  have HM : Hid ((us0.take n).length = Nat.min len0 n) := by show _ = _; rw [List.length_take, HU.out]; exact Nat.min_comm _ _
  have HN : Hid ((us0.take n).length ≤ n) := by show _ ≤ _; rw [List.length_take]; exact Nat.min_le_left _ _
  clear hul husrc huel hne
  generalize hcs : us0.take n = cs at HK H1 HM HN
  have HCS : Hid (us0.take n = cs) := hcs
  clear hcs
  have hB' : w.heap.size ≤ w.heap.size := Nat.le_refl _
  go_enter Try.func9, Try.ntmps9
  go_wp2_with (first | (at_make; refine wpList_make_full _ rfl (.tmp 15) (.tmp 15) 23 rfl w.heap.size 22 i0 (.slice none 0 0) 1 Try.underlying23 hi hz0 hz1 .i64 .i64 _ _ n rfl rfl rfl rfl (by rw [hz2]; omega) (by unfold maxLen; omega) hB' ?_; intro w1 hown hgrow; obtain ⟨cur, hcg, hcl, hct⟩ := own_list hown; have HCT := hide5 hct; clear hct hown) | (have _t := hcg; refine wpList_copy_splice rfl (.tmp 17) (.tmp 18) 23 23 rfl 22 Try.underlying23 Try.size22 (some ⟨w.heap.size, 0, none⟩) a n n len0 cap rfl rfl w.heap.size 0 cur 22 hcg cs HM.out (fun h => ⟨rfl, HK.out w1 hgrow h⟩) (by rw [hcl, Nat.zero_add]; exact HN.out) H1.out w.heap.size w ((Below.refl _ w).grown hgrow (Nat.le_refl _) (fun k hk => by cases hk)) (Nat.le_refl _) ?_; intro w2 hg2 hb2; clear hcg))
  have hS : St w.heap.size q n Xs w2 w.heap.size n 0 (splice cur 0 cs) := splice_start rfl HE.out hb2 hg2.out hcl HCT.out HU.out HL.out HCS.out hn
  clear hg2 HK H1 HM HN HE HU HCT HCS
  go_loopw [5, 6, 22] (fun f c i wr => ∃ k : Nat, k ≤ n ∧ i = .int .i64 k ∧ Below w.heap.size w wr ∧ c = .bool true ∧ ∃ g cap2 us, f = .slice (some ⟨g, 0, none⟩) n cap2 ∧ St w.heap.size q n Xs wr g cap2 k us) (fun _ _ i _ => n - (intOf i).toNat)
  case atStart => exact ⟨0, Nat.zero_le _, rfl, hb2, rfl, _, _, _, rfl, hS⟩
  case round =>
    obtain ⟨k, hk, rfl, hbel, rfl, g, cap2, us, rfl, hst⟩ := hrel
    by_cases hlt : k < n
    · have hst0 := hst
      obtain ⟨a', cap', xs, hcell, hrow, HX⟩ := hst.elem hlt
      have HST : Hid (St w.heap.size q n Xs wr g cap2 k us) := hst
      have hxl : xs.length ≤ 1048576 := by rw [← HX.out]; exact getD_bd HI.out k
      clear hst hst0
      have HRow : Hid (RowAt (fun b => b ≠ g ∧ (q b ∨ w.heap.size ≤ b)) wr a' xs) := hrow
      clear hrow
      generalize hlen : xs.length = len at *
      have HLen : Hid (xs.length = len) := hlen
      clear hlen
      go_wp2_with fail
      go_loop [5, 6, 30] (fun f c i => ∃ m : Nat, m ≤ len ∧ i = .int .i64 m ∧ f = .slice (some ⟨g, 0, none⟩) n cap2 ∧ c = .bool true ∧ ∀ j, j < m → okB n (xs.getD j 0) = true) (fun _ _ i => len - (intOf i).toNat)
      case atStart => exact ⟨0, Nat.zero_le _, rfl, rfl, rfl, fun j hj => by omega⟩
      case round =>
        obtain ⟨m, hm, rfl, rfl, rfl, hall⟩ := hrel
        have HA : Hid (∀ j, j < m → okB n (xs.getD j 0) = true) := hall
        clear hall
        by_cases hm2 : m < len
        · obtain ⟨b2, off2, x, rfl, hp2, hc2, HX2⟩ := HRow.out.at HLen.out hm2
          by_cases hok : 0 ≤ x ∧ x < n
          · obtain ⟨ho1, ho2⟩ := hok
            have HA2 : Hid (∀ j, j < m + 1 → okB n (xs.getD j 0) = true) := all_next HA.out HX2.out (okB_yes ho1 ho2)
            go_wp2_with fail
            go_round
            case rel => exact ⟨m + 1, by omega, by go_num, rfl, rfl, HA2.out⟩
            case measure => simp [intOf]; omega
          · have hsplit : x < 0 ∨ (0 ≤ x ∧ ¬ x < n) := by omega
            clear hok
            rcases hsplit with ho1 | ⟨ho1, ho2⟩
            all_goals
              go_wp2_with fail
              refine (below_calls _ _ xs n wr (HRow.out.close cap' _ HLen.out) (by rw [HLen.out]; exact hxl)).mono ?_
              rintro e w2 ⟨v', rfl, hv', hb2⟩
              rw [← HX.out] at hv'
              obtain ⟨S1, hold, hfz, a3, cap3, l3, rfl, B1⟩ := St.behind HST.out hlt hb2 hv' (hbel.mono (Nat.le_refl _))
              go_wp2_with fail
              go_roundw
              case rel => exact ⟨k + 1, by omega, by go_num, B1.out, rfl, g, cap2, _, rfl, S1.out⟩
              case measure => simp [intOf]; omega
        · have hfil : (Xs.getD k []).filter (okB n) = Xs.getD k [] := by rw [HX.out]; exact all_filter (fun j hj => HA.out j (by rw [HLen.out] at hj; omega))
          have HF : Hid ((Xs.getD k []).filter (okB n) = Xs.getD k []) := hfil
          clear hfil
          go_wp2_with fail
          go_roundw
          case rel => exact ⟨k + 1, by omega, by go_num, hbel, rfl, g, cap2, us, rfl, HST.out.skip HF.out⟩
          case measure => simp [intOf]; omega
    · obtain rfl : k = n := by omega
      go_wp2_with fail
      go_ret
      exact ⟨_, rfl, hst.done.keep (fun _ _ _ => rfl) (fun b h _ => h.elim (fun h => .inl (.inr h)) .inr) (fun b h _ => h.elim (fun h => .inl (.inr h)) .inr), hbel⟩

end Go.Proofs.Qxb6623382a
