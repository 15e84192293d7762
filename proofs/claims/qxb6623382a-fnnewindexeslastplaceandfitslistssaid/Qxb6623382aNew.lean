import Derived.Test.Qxb6623382aFitE
namespace Go.Proofs.Qxb6623382a
open Go.ChangeShapes Go.WideShapes Go.ChangeAt Go.RowKit
open Go.Maps

theorem law : Keyed Try.prog 3 := int_keyed Try.underlying3
theorem zero3 (w : World) : (zeroValue 3).run Try.prog w = .ok (.int .i64 0) w := by kernel_rfl
theorem run_makeMap29 (n : Int) (w : World) : (Instr.makeMap 29 (some (.int .i64 n))).run Try.prog w = .ok (.map (some w.heap.size)) (w.alloc (.map #[] 0)) := by
  simp [Instr.makeMap, run_underlying Try.underlying29, asInt, asIntOf]

/-- The map behind k rounds. -/
def idx (N : List Int) : Nat → DataW Unit
  | 0 => .map []
  | k + 1 => (idx N k).put (.int .i64 (N.getD k 0)) (.lit (.int .i64 k))

/-- Where New stands behind k rounds: the graph's block G, the map's block M. -/
structure Inv (w : World) (N : List Int) (Xs : List (List Int)) (n : Nat) (v1 u : Value) (G M k : Nat) (wr : World) : Prop where
  own : wr.ownsMap Try.prog 3 (plainElem (H := Unit) Try.prog 3) M k (idx N k)
  c0 : wr.cell? ⟨G, 0, none⟩ = some (.map (some M))
  c1 : wr.cell? ⟨G, 1, none⟩ = some v1
  c2 : wr.cell? ⟨G, 2, none⟩ = some u
  ne : G ≠ M
  ge : w.heap.size ≤ M
  rows : RowsP (fun b => b ≠ M) (fun b => b ≠ M) wr u (fitted n Xs)
  bel : Below w.heap.size w wr

theorem Inv.step {w : World} {N : List Int} {Xs : List (List Int)} {n : Nat} {v1 u : Value} {G M k : Nat} {wr w1 : World} (h : Inv w N Xs n v1 u G M k wr) {x : Int} (hx : N.getD k 0 = x)
    (ho : w1.ownsMap Try.prog 3 (plainElem (H := Unit) Try.prog 3) M (k + 1) ((idx N k).put (.int .i64 x) (.lit (.int .i64 k)))) (hg : wr.grownBy w1 (some M)) : Inv w N Xs n v1 u G M (k + 1) w1 := by
  have hc : ∀ o, wr.cell? ⟨G, o, none⟩ = w1.cell? ⟨G, o, none⟩ := fun o => by
    have hG : G < wr.heap.size := cell_lt h.c0
    exact (World.cell?_of_block (a := ⟨G, o, none⟩) (hg.block G hG (by simpa using h.ne))).symm
  refine ⟨?_, by rw [← hc]; exact h.c0, by rw [← hc]; exact h.c1, by rw [← hc]; exact h.c2, h.ne, h.ge, ?_, ?_⟩
  · have e : idx N (k + 1) = (idx N k).put (.int .i64 x) (.lit (.int .i64 k)) := by rw [← hx]; rfl
    rw [e]; exact ho
  · exact h.rows.keep (Same.grown hg (fun b hb => by rcases hb with hb | hb <;> simpa using hb)) (fun _ h _ => h) (fun _ h _ => h)
  · exact h.bel.grown hg h.bel.size (fun k hk => by cases hk; exact h.ge)

theorem getD_mem0 (N : List Int) (i : Nat) (h : i < N.length) : N.getD i 0 ∈ N := by
  rw [List.getD_eq_getElem?_getD, List.getElem?_eq_getElem h]
  exact List.getElem_mem _

theorem rows_alloc {p q : Nat → Prop} {w : World} {v : Value} {Xs : List (List Int)} (h : RowsP p q w v Xs) (o : Obj) : RowsP p q (w.alloc o) v Xs :=
  h.keep (fun b _ hb => by show (w.heap.push o)[b]? = _; rw [Array.getElem?_push, if_neg (by omega)]) (fun _ h _ => h) (fun _ h _ => h)

/-- The map made first, then fit. -/
theorem inv_a {p q : Nat → Prop} {w w1 : World} {N : List Int} {Xs : List (List Int)} {n : Nat} {v1 u : Value} (hu : RowsP (fun b => (p b ∨ q b) ∨ (w.alloc (.map #[] 0)).heap.size ≤ b) (fun b => (p b ∨ q b) ∨ (w.alloc (.map #[] 0)).heap.size ≤ b) w1 u (fitted n Xs))
    (hpq : ∀ b, p b ∨ q b → b < w.heap.size) (hb : Below (w.alloc (.map #[] 0)).heap.size (w.alloc (.map #[] 0)) w1) : Inv w N Xs n v1 u w1.heap.size w.heap.size 0 (w1.alloc (.cells #[.map (some w.heap.size), v1, u] 35)) := by
  have e1 : (w.alloc (.map #[] 0)).heap.size = w.heap.size + 1 := by simp
  have hsz := hb.size
  rw [e1] at hsz hu
  have hown : w1.ownsMap Try.prog 3 (plainElem (H := Unit) Try.prog 3) w.heap.size 0 (.map []) := by
    obtain ⟨es, cl, h1, h2, h3, h4⟩ := World.ownsMap_made (H := Unit) w Try.prog 3 (plainElem (H := Unit) Try.prog 3)
    exact ⟨es, cl, by rw [hb.block _ (by omega)]; exact h1, h2, h3, h4⟩
  refine ⟨hown.alloc _, by simp [go_sem], by simp [go_sem], by simp [go_sem], by omega, Nat.le_refl _, ?_, ?_⟩
  · refine rows_alloc (hu.keep (fun _ _ _ => rfl) ?_ ?_) _ <;>
    · intro b h _
      rcases h with h | h
      · have := hpq b h; omega
      · omega
  · exact (((Below.refl _ w).alloc (Nat.le_refl _) _).trans (hb.mono (by omega))).alloc (by omega) _

/-- fit first, then the map. -/
theorem inv_b {r : Nat → Prop} {w w1 : World} {N : List Int} {Xs : List (List Int)} {n : Nat} {v1 u : Value} (hu : RowsP r r w1 u (fitted n Xs)) (hb : Below w.heap.size w w1) :
    Inv w N Xs n v1 u (w1.heap.size + 1) w1.heap.size 0 ((w1.alloc (.map #[] 0)).alloc (.cells #[.map (some w1.heap.size), v1, u] 35)) := by
  have hsz := hb.size
  refine ⟨(World.ownsMap_made _ _ _ _).alloc _, by simp [go_sem], by simp [go_sem], by simp [go_sem], by omega, hsz, ?_, ?_⟩
  · refine rows_alloc (rows_alloc (hu.keep (fun _ _ _ => rfl) ?_ ?_) _) _ <;>
    · intro b _ hl; omega
  · exact (hb.alloc (by omega) _).alloc (by simp; omega) _

theorem rows_hide {p q : Nat → Prop} {w : World} {v : Value} {n : Nat} {Xs : List (List Int)} (h : RowsP p q w v (fitted n Xs)) : ∃ a cap, v = .slice a n cap ∧ Hid (RowsP p q w v (fitted n Xs)) := by
  obtain ⟨a, cap, hv, _⟩ := h.open
  exact ⟨a, cap, by rw [hv, fitted_len], h⟩

set_option maxRecDepth 100000 in
set_option maxHeartbeats 4000000 in
theorem new_calls (p p2 q : Nat → Prop) (v1 v2 : Value) (N : List Int) (Xs : List (List Int)) (w : World) (h1 : RowP p w v1 N) (h2 : RowsP p2 q w v2 Xs) (hn : N.length ≤ 65536) (hin : ∀ xs ∈ Xs, xs.length ≤ 1048576) (hwf : ∀ x ∈ N, (Lit.int .i64 x).wf = true) :
    Calls Try.prog 7 #[v1, v2] w fun e w' => ∃ G M u, e = .returned (.pointer (some ⟨G, 0, none⟩)) ∧ Inv w N Xs N.length v1 u G M N.length w' := by
  obtain ⟨a, cap, rfl, hr⟩ := h1.open
  have HR : Hid (RowAt p w a N) := hr
  have h2' := h2.keep (p' := fun b => b < w.heap.size) (q' := fun b => b < w.heap.size) (fun _ _ _ => rfl) (fun _ _ h => h) (fun _ _ h => h)
  have H2 : Hid (RowsP (fun b => b < w.heap.size) (fun b => b < w.heap.size) w v2 Xs) := h2'
  have HI : Hid (∀ xs ∈ Xs, xs.length ≤ 1048576) := hin
  have HW : Hid (∀ x ∈ N, (Lit.int .i64 x).wf = true) := hwf
  clear hr h1 h2 h2' hin hwf
  generalize hl : N.length = n at *
  have HL : Hid (N.length = n) := hl
  clear hl
  have hmm := run_makeMap29
  go_enter Try.func7, Try.ntmps7
  go_wp2_with fail
  go_region_with ((go_at_call 9; refine (fit_calls (fun b => b < w.heap.size) (fun b => b < w.heap.size) v2 Xs n _ (by first | exact H2.out | exact rows_alloc H2.out _) (by omega) HI.out).mono ?_; rintro e w1 ⟨v', rfl, hv', hb'⟩; obtain ⟨a3, cap3, hv3, HV⟩ := rows_hide hv'; subst hv3; clear hv'))
  · have I0 : Inv w N Xs n (.slice a n cap) (.slice a3 n cap3) w1.heap.size w.heap.size 0 (w1.alloc (.cells #[.map (some w.heap.size), .slice a n cap, .slice a3 n cap3] 35)) :=
      inv_a HV.out (fun b h => by rcases h with h | h <;> exact h) ((((Below.refl _ (w.alloc (.map #[] 0))).drew)).trans hb')
    go_wp2_with fail
    go_loopw [20] (fun i wr => ∃ k : Nat, k ≤ n ∧ i = .int .i64 k ∧ Inv w N Xs n (.slice a n cap) (.slice a3 n cap3) (w1.heap.size) (w.heap.size) k wr) (fun i _ => n - (intOf i).toNat)
    case atStart => exact ⟨0, Nat.zero_le _, rfl, I0⟩
    case round =>
      obtain ⟨k, hk, rfl, hinv⟩ := hrel
      clear I0 HV hb' hmm
      by_cases hlt : k < n
      · obtain ⟨b, off, x, rfl, hp, hcx, HX⟩ := HR.out.at HL.out hlt
        have hbw : b < w.heap.size := cell_lt hcx
        have hcell : _ := (hinv.bel.cell (p := ⟨b, off + k, none⟩) hbw).trans hcx
        clear hcx
        have hg0 := hinv.c0
        have hown := hinv.own
        have hwx : (Lit.int .i64 x).wf = true := by rw [← HX.out]; exact HW.out _ (getD_mem0 N k (by rw [HL.out]; exact hlt))
        have HINV : Hid (Inv w N Xs n (.slice (some ⟨b, off, none⟩) n cap) (.slice a3 n cap3) (w1.heap.size) (w.heap.size) k wr) := hinv
        clear hinv
        go_wp2_with (at_mapUpdate; refine wpList_mapUpdate_own _ rfl (.tmp 28) (.tmp 29) (.tmp 30) 29 rfl 3 3 law Try.underlying29 _ (w.heap.size) k _ rfl hown (by unfold maxLen; omega) _ _ (.int .i64 x) rfl rfl (keyOf_int_mk Try.underlying3 hwx) (.lit (.int .i64 k)) [] (plainElem_int Try.underlying3 (WalkArith.wf_i64 (by omega))) ?_; intro w2 hown2 hgrow2; have I2 := hide5 (HINV.out.step HX.out hown2 hgrow2); clear hown2 hgrow2 hown)
        go_roundw
        case rel => exact ⟨k + 1, by omega, by go_num, I2.out⟩
        case measure => simp [intOf]; omega
      · obtain rfl : k = n := by omega
        go_wp2_with fail
        go_ret
        exact ⟨_, _, _, rfl, hinv⟩
  · have I0 : Inv w N Xs n (.slice a n cap) (.slice a3 n cap3) (w1.heap.size + 1) w1.heap.size 0 ((w1.alloc (.map #[] 0)).alloc (.cells #[.map (some w1.heap.size), .slice a n cap, .slice a3 n cap3] 35)) :=
      inv_b HV.out ((Below.refl _ w).drew.trans hb')
    go_wp2_with fail
    go_loopw [20] (fun i wr => ∃ k : Nat, k ≤ n ∧ i = .int .i64 k ∧ Inv w N Xs n (.slice a n cap) (.slice a3 n cap3) (w1.heap.size + 1) (w1.heap.size) k wr) (fun i _ => n - (intOf i).toNat)
    case atStart => exact ⟨0, Nat.zero_le _, rfl, I0⟩
    case round =>
      obtain ⟨k, hk, rfl, hinv⟩ := hrel
      clear I0 HV hb' hmm
      by_cases hlt : k < n
      · obtain ⟨b, off, x, rfl, hp, hcx, HX⟩ := HR.out.at HL.out hlt
        have hbw : b < w.heap.size := cell_lt hcx
        have hcell : _ := (hinv.bel.cell (p := ⟨b, off + k, none⟩) hbw).trans hcx
        clear hcx
        have hg0 := hinv.c0
        have hown := hinv.own
        have hwx : (Lit.int .i64 x).wf = true := by rw [← HX.out]; exact HW.out _ (getD_mem0 N k (by rw [HL.out]; exact hlt))
        have HINV : Hid (Inv w N Xs n (.slice (some ⟨b, off, none⟩) n cap) (.slice a3 n cap3) (w1.heap.size + 1) (w1.heap.size) k wr) := hinv
        clear hinv
        go_wp2_with (at_mapUpdate; refine wpList_mapUpdate_own _ rfl (.tmp 28) (.tmp 29) (.tmp 30) 29 rfl 3 3 law Try.underlying29 _ (w1.heap.size) k _ rfl hown (by unfold maxLen; omega) _ _ (.int .i64 x) rfl rfl (keyOf_int_mk Try.underlying3 hwx) (.lit (.int .i64 k)) [] (plainElem_int Try.underlying3 (WalkArith.wf_i64 (by omega))) ?_; intro w2 hown2 hgrow2; have I2 := hide5 (HINV.out.step HX.out hown2 hgrow2); clear hown2 hgrow2 hown)
        go_roundw
        case rel => exact ⟨k + 1, by omega, by go_num, I2.out⟩
        case measure => simp [intOf]; omega
      · obtain rfl : k = n := by omega
        go_wp2_with fail
        go_ret
        exact ⟨_, _, _, rfl, hinv⟩

end Go.Proofs.Qxb6623382a
