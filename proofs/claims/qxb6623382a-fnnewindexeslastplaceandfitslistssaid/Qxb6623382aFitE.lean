import Derived.Test.Qxb6623382aFitN
namespace Go.Proofs.Qxb6623382a
open Go.ChangeShapes Go.WideShapes Go.ChangeAt Go.RowKit

/-- Where the loop of fit stands: nothing copied yet, or a copy of fit's own. -/
def FitRel (q : Nat → Prop) (n : Nat) (Xs : List (List Int)) (w : World) (a : Option Addr) (cap : Nat) (f c : Value) (k : Nat) (wr : World) : Prop :=
  (c = .bool false ∧ f = .slice a n cap ∧ wr = w ∧ ∀ j, j < k → (Xs.getD j []).filter (okB n) = Xs.getD j []) ∨
  (c = .bool true ∧ ∃ g cap2 us, f = .slice (some ⟨g, 0, none⟩) n cap2 ∧ St w.heap.size q n Xs wr g cap2 k us)

theorem filt_next {n : Int} {Xs : List (List Int)} {k : Nat} (h : ∀ j, j < k → (Xs.getD j []).filter (okB n) = Xs.getD j []) (hk : (Xs.getD k []).filter (okB n) = Xs.getD k []) : ∀ j, j < k + 1 → (Xs.getD j []).filter (okB n) = Xs.getD j [] := by
  intro j hj
  by_cases e : j = k
  · subst e; exact hk
  · exact h j (by omega)

/-- Behind 'append([][]int(nil), succ...)'. -/
theorem append_start {q : Nat → Prop} {n k : Nat} {Xs : List (List Int)} {w w1 : World} {us0 : List Value} {v1 : Value} {a' : Option Addr} {len cap' : Nat} {xs : List Int}
    (hown : w1.ownsRow w.heap.size 22 1 v1 (0 + n) ([] ++ us0)) (hgrow : w.grownBy w1 (Value.ownBlock (.slice none 0 0))) (hl : Xs.length = n) (he : Elems q w us0 Xs Xs.length) (hk : k < n) (hok : ∀ j, j < k → (Xs.getD j []).filter (okB n) = Xs.getD j [])
    (hu : us0.getD k undef = .slice a' len cap') (hx : Xs.getD k [] = xs) :
    ∃ g cap2, v1 = .slice (some ⟨g, 0, none⟩) n cap2 ∧ w1.cell? ⟨g, k, none⟩ = some (.slice a' len cap') ∧ Hid (St w.heap.size q n Xs w1 g cap2 k us0) ∧ Hid (RowP q w1 (.slice a' len cap') xs) ∧ Hid (Below w.heap.size w w1) := by
  rw [Nat.zero_add, List.nil_append] at hown
  have hb : Below w.heap.size w w1 := (Below.refl _ w).grown hgrow (Nat.le_refl _) (fun k hk => by cases hk)
  rcases hown.2 with ⟨_, h0⟩ | ⟨g, cap2, cur, rfl, _⟩
  · omega
  · refine ⟨g, cap2, rfl, by rw [own_cell hown hk, hu], ?_, ?_, hb⟩
    · exact St.start rfl he hb hown (fun j hj => by rw [if_pos (by omega)]) k hok
    · have := (he k (by omega)).keep (Same.below hb) (fun _ h _ => h)
      rw [hu, hx] at this
      exact this

set_option maxRecDepth 100000 in
set_option maxHeartbeats 4000000 in
theorem fit_eq (p q : Nat → Prop) (a : Option Addr) (cap : Nat) (Xs : List (List Int)) (n : Nat) (w : World) (HR : Hid (RowsAt p q w a Xs)) (HL : Hid (Xs.length = n)) (hn : n ≤ 1048576) (HI : Hid (∀ xs ∈ Xs, xs.length ≤ 1048576)) :
    Calls Try.prog 9 #[.slice a n cap, .int .i64 n] w fun e w' => ∃ v', e = .returned v' ∧ RowsP (fun b => (p b ∨ q b) ∨ w.heap.size ≤ b) (fun b => (p b ∨ q b) ∨ w.heap.size ≤ b) w' v' (fitted n Xs) ∧ Below w.heap.size w w' := by
  obtain ⟨i0, hi, hz0, hz1, hz2⟩ := info_parts Try.info22
  obtain ⟨us0, hul, husrc, huel⟩ := rows_list HR.out
  have HU : Hid (us0.length = n) := hul.trans HL.out
  have HE : Hid (Elems q w us0 Xs Xs.length) := huel
  have HUS : Hid (∀ j, j < n → ∃ b off, a = some ⟨b, off, none⟩ ∧ p b ∧ w.cell? ⟨b, off + j, none⟩ = some (us0.getD j undef)) := fun j hj => husrc j (by rw [HL.out]; exact hj)
  have H1 : Hid (∀ u ∈ us0, u.oneCell' = true) := elems_oneCell (by rw [hul]; exact huel)
  clear hul husrc huel
  have hB' : w.heap.size ≤ w.heap.size := Nat.le_refl _
  go_enter Try.func9, Try.ntmps9
  go_wp2_with fail
  go_loopw [5, 6, 22] (fun f c i wr => ∃ k : Nat, k ≤ n ∧ i = .int .i64 k ∧ Below w.heap.size w wr ∧ FitRel q n Xs w a cap f c k wr) (fun _ _ i _ => n - (intOf i).toNat)
  case atStart => exact ⟨0, Nat.zero_le _, rfl, Below.refl _ _, .inl ⟨rfl, rfl, rfl, fun j hj => by omega⟩⟩
  case round =>
    obtain ⟨k, hk, rfl, hbel, hrel2⟩ := hrel
    rcases hrel2 with ⟨rfl, rfl, hwr, hokk⟩ | ⟨rfl, g, cap2, us, rfl, hst⟩
    · have hwr2 : w = wr := hwr.symm
      clear hwr
      subst hwr2
      have HO : Hid (∀ j, j < k → (Xs.getD j []).filter (okB n) = Xs.getD j []) := hokk
      clear hokk
      by_cases hlt : k < n
      · obtain ⟨b, off, xs, a', cap', ha, hp, hcell, hrow, HX⟩ := HR.out.at HL.out hlt
        have HUK : Hid (us0.getD k undef = .slice a' xs.length cap') := by
          obtain ⟨b', off', ha', _, hc'⟩ := HUS.out k hlt
          rw [ha] at ha'
          simp at ha'
          obtain ⟨rfl, rfl⟩ := ha'
          rw [hcell] at hc'
          exact (Option.some.inj hc').symm
        have hxl : xs.length ≤ 1048576 := by rw [← HX.out]; exact getD_bd HI.out k
        have HRow : Hid (RowAt q w a' xs) := hrow
        have HS : Hid (∀ j u, us0[j]? = some u → w.cell? ((⟨b, off, none⟩ : Addr).add j) = some u) := by
          intro j u hj
          have hj1 := (List.getElem?_eq_some_iff.1 hj).1
          obtain ⟨b', off', ha', _, hc'⟩ := HUS.out j (by rw [← HU.out]; exact hj1)
          rw [ha] at ha'
          simp at ha'
          obtain ⟨rfl, rfl⟩ := ha'
          rw [Addr.add_lit, hc']
          simp [hj]
        clear hrow
        subst ha
        generalize hlen : xs.length = len at *
        have HLen : Hid (xs.length = len) := hlen
        clear hlen
        go_wp2_with fail
        go_loop [5, 6, 30] (fun f c i => ∃ m : Nat, m ≤ len ∧ i = .int .i64 m ∧ f = .slice (some ⟨b, off, none⟩) n cap ∧ c = .bool false ∧ ∀ j, j < m → okB n (xs.getD j 0) = true) (fun _ _ i => len - (intOf i).toNat)
        case atStart => exact ⟨0, Nat.zero_le _, rfl, rfl, rfl, fun j hj => by omega⟩
        case round =>
          obtain ⟨m, hm, rfl, rfl, rfl, hall⟩ := hrel
          have HA : Hid (∀ j, j < m → okB n (xs.getD j 0) = true) := hall
          clear hall
          by_cases hm2 : m < len
          · obtain ⟨b2, off2, x, rfl, hp2, hc2, HX2⟩ := HRow.out.at HLen.out hm2
            by_cases hok : 0 ≤ x ∧ x < n
            · obtain ⟨ho1, ho2⟩ := hok
              have HA2 : Hid (∀ j, j < m + 1 → okB n (xs.getD j 0) = true) := all_next HA.out HX2.out (okB_yes ho1 ho2)
              go_wp2_with fail
              go_round
              case rel => exact ⟨m + 1, by omega, by go_num, rfl, rfl, HA2.out⟩
              case measure => simp [intOf]; omega
            · have hsplit : x < 0 ∨ (0 ≤ x ∧ ¬ x < n) := by omega
              clear hok
              rcases hsplit with ho1 | ⟨ho1, ho2⟩
              all_goals
                go_wp2_with (at_builtin; refine wpList_append_own _ rfl (.const (.slice none 0 0)) (.tmp 43) 23 rfl w.heap.size 22 i0 (.slice none 0 0) 1 24 Try.underlying23 hi hz0 hz1 hz2 rfl (by decide) (.slice none 0 0) 0 [] rfl (World.ownsRow_nil _ _ _ _) ⟨b, off, none⟩ n cap us0 rfl (by rw [HU.out, Nat.mul_one]) HS.out H1.out (by unfold maxLen; omega) (by omega) hB' ?_; intro v1 w1 hown1 hgrow1 hnil1; obtain ⟨g, cap2, rfl, hc3, S0, R0, B0⟩ := append_start hown1 hgrow1 HL.out HE.out hlt HO.out HUK.out HX.out; clear hown1 hgrow1 hnil1)
                refine (below_calls _ _ xs n w1 R0.out (by rw [HLen.out]; exact hxl)).mono ?_
                rintro e w2 ⟨v', rfl, hv', hb2⟩
                rw [← HX.out] at hv'
                obtain ⟨S1, hold, hfz, a3, cap3, l3, rfl, B1⟩ := St.behind S0.out hlt hb2 hv' B0.out
                go_wp2_with fail
                go_roundw
                case rel => exact ⟨k + 1, by omega, by go_num, B1.out, .inr ⟨rfl, g, cap2, _, rfl, S1.out⟩⟩
                case measure => simp [intOf]; omega
          · have hfil : (Xs.getD k []).filter (okB n) = Xs.getD k [] := by rw [HX.out]; exact all_filter (fun j hj => HA.out j (by rw [HLen.out] at hj; omega))
            have HF : Hid ((Xs.getD k []).filter (okB n) = Xs.getD k []) := hfil
            clear hfil
            go_wp2_with fail
            go_roundw
            case rel => exact ⟨k + 1, by omega, by go_num, Below.refl _ _, .inl ⟨rfl, rfl, rfl, filt_next HO.out HF.out⟩⟩
            case measure => simp [intOf]; omega
      · have hkn : n = k := by omega
        go_wp2_with fail
        go_ret
        exact ⟨_, rfl, rows_same HR.out HL.out (fun j hj => HO.out j (by omega)) (fun b h => .inl (.inl h)) (fun b h => .inl (.inr h)), Below.refl _ _⟩
    · by_cases hlt : k < n
      · have hst0 := hst
        obtain ⟨a', cap', xs, hcell, hrow, HX⟩ := hst.elem hlt
        have HST : Hid (St w.heap.size q n Xs wr g cap2 k us) := hst
        have hxl : xs.length ≤ 1048576 := by rw [← HX.out]; exact getD_bd HI.out k
        clear hst hst0
        have HRow : Hid (RowAt (fun b => b ≠ g ∧ (q b ∨ w.heap.size ≤ b)) wr a' xs) := hrow
        clear hrow
        generalize hlen : xs.length = len at *
        have HLen : Hid (xs.length = len) := hlen
        clear hlen
        go_wp2_with fail
        go_loop [5, 6, 30] (fun f c i => ∃ m : Nat, m ≤ len ∧ i = .int .i64 m ∧ f = .slice (some ⟨g, 0, none⟩) n cap2 ∧ c = .bool true ∧ ∀ j, j < m → okB n (xs.getD j 0) = true) (fun _ _ i => len - (intOf i).toNat)
        case atStart => exact ⟨0, Nat.zero_le _, rfl, rfl, rfl, fun j hj => by omega⟩
        case round =>
          obtain ⟨m, hm, rfl, rfl, rfl, hall⟩ := hrel
          have HA : Hid (∀ j, j < m → okB n (xs.getD j 0) = true) := hall
          clear hall
          by_cases hm2 : m < len
          · obtain ⟨b2, off2, x, rfl, hp2, hc2, HX2⟩ := HRow.out.at HLen.out hm2
            by_cases hok : 0 ≤ x ∧ x < n
            · obtain ⟨ho1, ho2⟩ := hok
              have HA2 : Hid (∀ j, j < m + 1 → okB n (xs.getD j 0) = true) := all_next HA.out HX2.out (okB_yes ho1 ho2)
              go_wp2_with fail
              go_round
              case rel => exact ⟨m + 1, by omega, by go_num, rfl, rfl, HA2.out⟩
              case measure => simp [intOf]; omega
            · have hsplit : x < 0 ∨ (0 ≤ x ∧ ¬ x < n) := by omega
              clear hok
              rcases hsplit with ho1 | ⟨ho1, ho2⟩
              all_goals
                go_wp2_with fail
                refine (below_calls _ _ xs n wr (HRow.out.close cap' _ HLen.out) (by rw [HLen.out]; exact hxl)).mono ?_
                rintro e w2 ⟨v', rfl, hv', hb2⟩
                rw [← HX.out] at hv'
                obtain ⟨S1, hold, hfz, a3, cap3, l3, rfl, B1⟩ := St.behind HST.out hlt hb2 hv' (hbel.mono (Nat.le_refl _))
                go_wp2_with fail
                go_roundw
                case rel => exact ⟨k + 1, by omega, by go_num, B1.out, .inr ⟨rfl, g, cap2, _, rfl, S1.out⟩⟩
                case measure => simp [intOf]; omega
          · have hfil : (Xs.getD k []).filter (okB n) = Xs.getD k [] := by rw [HX.out]; exact all_filter (fun j hj => HA.out j (by rw [HLen.out] at hj; omega))
            have HF : Hid ((Xs.getD k []).filter (okB n) = Xs.getD k []) := hfil
            clear hfil
            go_wp2_with fail
            go_roundw
            case rel => exact ⟨k + 1, by omega, by go_num, hbel, .inr ⟨rfl, g, cap2, us, rfl, HST.out.skip HF.out⟩⟩
            case measure => simp [intOf]; omega
      · obtain rfl : k = n := by omega
        go_wp2_with fail
        go_ret
        exact ⟨_, rfl, hst.done.keep (fun _ _ _ => rfl) (fun b h _ => h.elim (fun h => .inl (.inr h)) .inr) (fun b h _ => h.elim (fun h => .inl (.inr h)) .inr), hbel⟩

theorem fit_calls (p q : Nat → Prop) (v : Value) (Xs : List (List Int)) (n : Nat) (w : World) (h : RowsP p q w v Xs) (hn : n ≤ 1048576) (hin : ∀ xs ∈ Xs, xs.length ≤ 1048576) :
    Calls Try.prog 9 #[v, .int .i64 n] w fun e w' => ∃ v', e = .returned v' ∧ RowsP (fun b => (p b ∨ q b) ∨ w.heap.size ≤ b) (fun b => (p b ∨ q b) ∨ w.heap.size ≤ b) w' v' (fitted n Xs) ∧ Below w.heap.size w w' := by
  obtain ⟨a, cap, rfl, hr⟩ := h.open
  by_cases e : Xs.length = n
  · subst e
    exact fit_eq p q a cap Xs Xs.length w hr rfl hn hin
  · exact fit_ne p q a Xs.length cap Xs n w hr rfl hn hin e

end Go.Proofs.Qxb6623382a
