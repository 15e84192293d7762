import Derived.Test.Qxb6623382aPts
namespace Go.Proofs.Qxb6623382a
open Go.ChangeShapes Go.WideShapes Go.ChangeAt Go.RowKit
open Go.Maps

theorem row_hide {p : Nat → Prop} {w : World} {v : Value} {n : Nat} {xs : List Int} (h : RowP p w v xs) (hn : xs.length = n) : ∃ a cap, v = .slice a n cap ∧ Hid (RowP p w v xs) := by
  obtain ⟨a, cap, hv, _⟩ := h.open
  exact ⟨a, cap, by rw [hv, hn], h⟩
theorem RowP.at0 {p : Nat → Prop} {w : World} {a : Option Addr} {n cap : Nat} {xs : List Int} (h : RowP p w (.slice a n cap) xs) : RowAt p w a xs := by
  obtain ⟨a', cap', hv, hr⟩ := h.open
  cases hv
  exact hr
theorem RowsP.at0 {p q : Nat → Prop} {w : World} {a : Option Addr} {n cap : Nat} {Xs : List (List Int)} (h : RowsP p q w (.slice a n cap) Xs) : RowsAt p q w a Xs := by
  obtain ⟨a', cap', hv, hr⟩ := h.open
  cases hv
  exact hr

/-- All that the law's last half reads: the arguments as they were, and what New has made. -/
structure Made (w : World) (p p2 q : Nat → Prop) (N : List Int) (Xs : List (List Int)) (n : Nat) (a a1 aN aF : Option Addr) (M : Nat) (W : World) : Prop where
  ra : RowAt p W a N
  rs : RowsAt p2 q W a1 Xs
  rg : RowAt (fun _ => True) W aN N
  rf : RowsAt (fun b => b ≠ M) (fun b => b ≠ M) W aF (fitted n Xs)
  om : W.ownsMap Try.prog 3 (plainElem (H := Unit) Try.prog 3) M n (idx N n)
  bw : Below w.heap.size w W

theorem made_of {w w1 w2 w3 : World} {p p2 q : Nat → Prop} {N : List Int} {Xs : List (List Int)} {n : Nat} {a a1 aN aF : Option Addr} {capN capF G M : Nat} (hra : RowAt p w a N) (hrs : RowsAt p2 q w a1 Xs) (hb1 : Below w.heap.size w w1) (hN : RowP (fun b => w.heap.size ≤ b) w1 (.slice aN n capN) N) (hb2 : Below w1.heap.size w1 w2)
    (hinv : Inv w2 N Xs n (.slice aN n capN) (.slice aF n capF) G M n w3) : Made w p p2 q N Xs n a a1 aN aF M w3 := by
  have s1 := hb1.size
  have s2 := hb2.size
  have hb : Below w.heap.size w w3 := (hb1.trans (hb2.mono s1)).trans (hinv.bel.mono (by omega))
  refine ⟨hra.keep (Same.below hb), hrs.keep (Same.below hb), ?_, hinv.rows.at0, hinv.own, hb⟩
  exact (((hN.keep (Same.below hb2) (fun _ h _ => h)).keep (Same.below hinv.bel) (fun _ _ _ => trivial)).at0)

theorem keptTo_at {n : Int} {xs : List Int} {k : Nat} {x : Int} (hk : k < xs.length) (hx : xs.getD k 0 = x) (h : okB n x = true) : (keptTo n xs k).length < (xs.filter (okB n)).length ∧ (xs.filter (okB n)).getD (keptTo n xs k).length 0 = x := by
  have e : xs.filter (okB n) = keptTo n xs (k + 1) ++ (xs.drop (k + 1)).filter (okB n) := by
    unfold keptTo
    rw [← List.filter_append, List.take_append_drop]
  rw [e, keptTo_yes hk hx h]
  constructor
  · simp
  · simp

theorem look_eq {D : DataW Unit} {kl : Lit} {j c : Int} (h : ∀ z, D.atKey kl z = .lit (.int .i64 j)) (hat : D.atKey kl (.lit (.int .i64 0)) = .lit (.int .i64 c)) : c = j := by
  rw [h] at hat
  injection hat with hat
  injection hat with _ hat
  exact hat.symm

theorem cnt_step {N : List Int} {n k j : Nat} {x : Int} (hx : N.getD k 0 = x) (h1 : k ≤ j) (h2 : j < n) (h3 : N.getD j 0 = x) (h4 : ∀ i, j < i → i < n → N.getD i 0 ≠ x) : cntLast N n (k + 1) = cntLast N n k + if j = k then 1 else 0 := by
  rw [cntLast_succ]
  by_cases e : j = k
  · subst e
    have : isLast N n j = true := by rw [isLast_iff, hx]; exact h4
    simp [this]
  · have : isLast N n k = false := by
      cases hl : isLast N n k
      · rfl
      · rw [isLast_iff] at hl
        exact absurd (h3.trans hx.symm) (hl j (by omega) h2)
    simp [this, e]

theorem RowAt.same {p : Nat → Prop} {w : World} {b off : Nat} {xs : List Int} (h : RowAt p w (some ⟨b, off, none⟩) xs) {n j : Nat} {x : Int} (hn : xs.length = n) (hj : j < n) (hx : xs.getD j 0 = x) : w.cell? ⟨b, off + j, none⟩ = some (.int .i64 x) := by
  obtain ⟨b', off', ha, _, hc⟩ := h j (by omega)
  simp at ha
  obtain ⟨rfl, rfl⟩ := ha
  rw [hc, hx]

set_option maxRecDepth 100000 in
set_option maxHeartbeats 8000000 in
theorem law_walk (p p2 q : Nat → Prop) (a a1 : Option Addr) (n cap m cap1 : Nat) (N : List Int) (Xs : List (List Int)) (w : World) (hn : n ≤ maxLen) (hm : m ≤ maxLen) (HR : Hid (RowAt p w a N)) (HLN : Hid (N.length = n)) (HS : Hid (RowsAt p2 q w a1 Xs)) (HLX : Hid (Xs.length = m)) (HX : Hid (∀ xs ∈ Xs, xs.length ≤ maxLen)) (HW : Hid (∀ x ∈ N, (Lit.int .i64 x).wf = true)) :
    Calls Try.prog 3 #[.slice a n cap, .slice a1 m cap1] w fun e w' => e = .returned (.bool true) ∧ Below w.heap.size w w' := by
  have hn0 := hn
  have hm0 := hm
  unfold maxLen at hn hm
  go_enter Try.func3, Try.ntmps3
  go_wp2_with fail
  refine (bytes4 p2 q a a1 n cap m cap1 Xs _ hn0 hm0 HLX HX HS).mono ?_
  rintro e w1 ⟨t, rfl, ht, h⟩
  have h' := h.symm
  clear h
  subst h'
  clear hn0 hm0
  cases t
  · go_wp2_with fail
    go_ret
    exact ⟨rfl, Below.refl _ _⟩
  have HI : Hid (∀ xs ∈ Xs, xs.length ≤ 1048576) := ht rfl
  clear ht
  by_cases h1 : 65536 < n
  · go_wp2_with fail
    go_ret
    exact ⟨rfl, Below.refl _ _⟩
  by_cases h2 : 65536 < m
  · go_wp2_with fail
    go_ret
    exact ⟨rfl, Below.refl _ _⟩
  go_wp2_with fail
  go_loop [5, 6] (fun z i => ∃ (k : Nat) (t : Int), k ≤ m ∧ i = .int .i64 k ∧ z = .int .i64 t ∧ 0 ≤ t ∧ t ≤ 131072) (fun _ i => m - (intOf i).toNat)
  case atStart => exact ⟨0, m, Nat.zero_le _, rfl, rfl, by omega, by omega⟩
  case round =>
    obtain ⟨k, t, hk, rfl, rfl, ht0, ht1⟩ := hrel
    by_cases hlt : k < m
    · obtain ⟨b, off, xs, a', cap', rfl, hp, hcell, hrow, HK⟩ := HS.out.at HLX.out hlt
      have hsz : xs.length ≤ 1048576 := by rw [← HK.out]; exact getD_bd HI.out k
      clear hrow
      generalize hlen : xs.length = len at *
      clear hlen
      by_cases hbig : 131072 < t + len
      · go_wp2_with fail
        go_ret
        exact ⟨rfl, Below.refl _ _⟩
      · go_wp2_with fail
        go_round
        case rel => exact ⟨k + 1, _, by omega, by go_num, rfl, by omega, by omega⟩
        case measure => simp [intOf]; omega
    go_wp2_with fail
    clear hlt hk ht0 ht1
    refine (copyInts_calls p _ N _ (HR.out.close cap _ HLN.out) (by rw [HLN.out]; omega)).mono ?_
    rintro e w1 ⟨vN, rfl, hvN, hb1⟩
    obtain ⟨aN, capN, hvN2, HN⟩ := row_hide hvN HLN.out
    subst hvN2
    have HB1 := hide5 hb1
    clear hvN hb1
    go_wp2_with fail
    refine (copyLists_calls p2 q _ Xs _ ((HS.out.keep (Same.below HB1.out)).close cap1 _ HLX.out) (by rw [HLX.out]; omega) HI.out).mono ?_
    rintro e w2 ⟨vS, rfl, hvS, hb2⟩
    have HVS := hide5 hvS
    have HB2 := hide5 hb2
    clear hvS hb2
    go_wp2_with fail
    refine (new_calls _ _ _ _ _ N Xs _ (HN.out.keep (q := fun _ => True) (Same.below HB2.out) (fun _ _ _ => trivial)) HVS.out (by rw [HLN.out]; omega) HI.out HW.out).mono ?_
    rintro e w3 ⟨G, M, u, rfl, hinv⟩
    rw [HLN.out] at hinv
    obtain ⟨aF, capF, hu2, HU⟩ := rows_hide hinv.rows
    subst hu2
    have c0 := hinv.c0
    have c1 := hinv.c1
    have c2 := hinv.c2
    have HM := hide5 (made_of HR.out HS.out HB1.out HN.out HB2.out hinv)
    clear hinv HU HN HVS HB1 HB2 HS HR
    go_wp2_with fail
    refine (parts_calls G M aN aF n capN n capF _ c0 c1 c2).mono ?_
    rintro e w4 ⟨rfl, d0, rfl⟩
    clear c0 c1 c2
    go_wp2_with fail
    go_loopw [14] (fun i wr => ∃ (k d : Nat), k ≤ n ∧ i = .int .i64 k ∧ wr = w3.drewN d) (fun i _ => n - (intOf i).toNat)
    case atStart => exact ⟨0, d0, Nat.zero_le _, rfl, rfl⟩
    case round =>
      obtain ⟨k, d, hk, rfl, rfl⟩ := hrel
      by_cases hlt : k < n
      · obtain ⟨b, off, x, rfl, hp, hca, HXa⟩ := HM.out.ra.at HLN.out hlt
        obtain ⟨b2, off2, x2, rfl, hp2, hcg, HXg⟩ := HM.out.rg.at HLN.out hlt
        obtain rfl : x2 = x := HXg.out.symm.trans HXa.out
        have hki : (k : Int) < (n : Int) := by omega
        go_wp2_with fail
        go_quiet (fail)
        go_wp2_with fail
        go_roundw
        case rel => exact ⟨k + 1, _, by omega, by go_num, rfl⟩
        case measure => simp [intOf]; omega
      go_wp2_with fail
      clear hlt hk
      go_loopw [15, 16] (fun z i wr => ∃ (k d : Nat), k ≤ n ∧ i = .int .i64 k ∧ z = .int .i64 (cntLast N n k) ∧ wr = w3.drewN d) (fun _ i _ => n - (intOf i).toNat)
      case atStart => exact ⟨0, d, Nat.zero_le _, rfl, rfl, rfl⟩
      case round =>
        obtain ⟨k, d, hk, rfl, rfl, rfl⟩ := hrel
        have hcle := cntLast_le N n k
        by_cases hlt : k < n
        · obtain ⟨b, off, x, rfl, hp, hca, HXa⟩ := HM.out.ra.at HLN.out hlt
          have hwx : (Lit.int .i64 x).wf = true := by rw [← HXa.out]; exact HW.out _ (getD_mem0 N k (by rw [HLN.out]; exact hlt))
          obtain ⟨j, hj1, hj2, hj3, hj4, hj5, hj6⟩ := idx_look N n k hlt x HXa.out
          have hcj := HM.out.ra.same HLN.out hj2 hj3
          have HC := hide5 (cnt_step HXa.out hj1 hj2 hj3 hj6)
          have HH := hide5 hj4
          have HAT := hide5 hj5
          clear hj3 hj4 hj5 hj6
          have hki : (k : Int) < (n : Int) := by omega
          have hji : (j : Int) < (n : Int) := by omega
          have hd1 : decide ((j : Int) < (k : Int)) = false := decide_eq_false (by omega)
          have hd2 : decide ((n : Int) ≤ (j : Int)) = false := decide_eq_false (by omega)
          by_cases ejk : j = k
          · subst ejk
            have HC1 : Hid (cntLast N n (j + 1) = cntLast N n j + 1) := by have h := HC.out; rw [if_pos rfl] at h; exact h
            clear HC
            go_wp2_with (at_lookup; refine wpList_lookup_own_ok_int _ rfl (.tmp 93) (.tmp 97) 29 rfl 3 3 .i64 law Try.underlying29 Try.underlying3 (zero3 _) M n _ rfl (show (w3.drewN d).ownsMap Try.prog 3 (plainElem (H := Unit) Try.prog 3) M n (idx N n) from HM.out.om) _ (.int .i64 x) rfl (keyOf_int_mk Try.underlying3 hwx) ?_; intro c hat hwc; obtain rfl := look_eq HAT.out hat; rw [HH.out]; clear hat hwc)
            go_quiet (fail)
            go_wp2_with fail
            go_roundw
            case rel => exact ⟨j + 1, _, by omega, by go_num, by rw [HC1.out]; go_num, rfl⟩
            case measure => simp [intOf]; omega
          · have hne : ((j : Int) == (k : Int)) = false := by rw [beq_eq_false_iff_ne]; omega
            have HC1 : Hid (cntLast N n (k + 1) = cntLast N n k) := by have h := HC.out; rw [if_neg ejk] at h; exact h
            clear ejk HC
            go_wp2_with (at_lookup; refine wpList_lookup_own_ok_int _ rfl (.tmp 93) (.tmp 97) 29 rfl 3 3 .i64 law Try.underlying29 Try.underlying3 (zero3 _) M n _ rfl (show (w3.drewN d).ownsMap Try.prog 3 (plainElem (H := Unit) Try.prog 3) M n (idx N n) from HM.out.om) _ (.int .i64 x) rfl (keyOf_int_mk Try.underlying3 hwx) ?_; intro c hat hwc; obtain rfl := look_eq HAT.out hat; rw [HH.out]; clear hat hwc)
            go_quiet (fail)
            go_wp2_with fail
            go_roundw
            case rel => exact ⟨k + 1, _, by omega, by go_num, by rw [HC1.out], rfl⟩
            case measure => simp [intOf]; omega
        have hkn : n = k := by omega
        subst hkn
        have hsz := hide5 (size_idx N n)
        go_wp2_with (have _t := hsz; at_len; refine wpList_len_own _ rfl (.tmp 129) 29 rfl 3 3 Try.underlying29 (plainElem (H := Unit) Try.prog 3) M n (idx N n) rfl (show (w3.drewN d).ownsMap Try.prog 3 (plainElem (H := Unit) Try.prog 3) M n (idx N n) from HM.out.om) ?_; rw [hsz.out]; clear hsz)
        clear hlt hk hcle
        go_loop [19] (fun i => ∃ k : Nat, k ≤ n ∧ i = .int .i64 k) (fun i => n - (intOf i).toNat)
        case atStart => exact ⟨0, Nat.zero_le _, rfl⟩
        case round =>
          obtain ⟨k, hk, rfl⟩ := hrel
          by_cases hlt : k < n
          · obtain ⟨bF, offF, ys, ag, capg, rfl, hpF, hcF, hrF, HY⟩ := HM.out.rf.at (fitted_len n Xs) hlt
            have HRg := hide5 hrF
            have hki : (k : Int) < (n : Int) := by omega
            by_cases hkm : k < m
            · obtain ⟨bS, offS, xs, ao, capo, rfl, hpS, hcS, hrS, HK⟩ := HM.out.rs.at HLX.out hkm
              have HRo := hide5 hrS
              have hkmi : (k : Int) < (m : Int) := by omega
              have HYX : Hid (ys = xs.filter (okB n)) := by show _ = _; rw [← HY.out, fitted_at n Xs k hlt, HK.out]
              have hol : xs.length ≤ 1048576 := by rw [← HK.out]; exact getD_bd HI.out k
              clear hrF hrS
              generalize hgl : ys.length = gl at *
              generalize hxl : xs.length = ol at *
              have HGL := hide5 hgl
              have HOL := hide5 hxl
              clear hgl hxl
              go_wp2_with fail
              go_loop [22, 156] (fun z i => ∃ t : Nat, t ≤ ol ∧ i = .int .i64 t ∧ z = .int .i64 (keptTo n xs t).length) (fun _ i => ol - (intOf i).toNat)
              case atStart => exact ⟨0, Nat.zero_le _, rfl, rfl⟩
              case round =>
                obtain ⟨t, ht, rfl, rfl⟩ := hrel
                have hkl := keptTo_le n xs t
                by_cases htl : t < ol
                · obtain ⟨b5, off5, x, rfl, hp5, hc5, HX5⟩ := HRo.out.at HOL.out htl
                  have hti : (t : Int) < (ol : Int) := by omega
                  by_cases hok : 0 ≤ x ∧ x < n
                  · obtain ⟨ho1, ho2⟩ := hok
                    have HE : Hid (keptTo n xs (t + 1) = keptTo n xs t ++ [x]) := keptTo_yes (by rw [HOL.out]; exact htl) HX5.out (okB_yes ho1 ho2)
                    obtain ⟨hk1, hk2⟩ := keptTo_at (n := n) (by rw [HOL.out]; exact htl) HX5.out (okB_yes ho1 ho2)
                    rw [← HYX.out] at hk1 hk2
                    rw [HGL.out] at hk1
                    obtain ⟨b6, off6, x6, rfl, hp6, hc6, HX6⟩ := HRg.out.at HGL.out hk1
                    obtain rfl : x6 = x := HX6.out.symm.trans hk2
                    have HK2 := hide5 hk2
                    clear hk2
                    have hkki : ((keptTo n xs t).length : Int) < (gl : Int) := by omega
                    go_wp2_with fail
                    go_round
                    case rel => exact ⟨t + 1, by omega, by go_num, by rw [HE.out, List.length_append]; rfl⟩
                    case measure => simp [intOf]; omega
                  · have HE : Hid (keptTo n xs (t + 1) = keptTo n xs t) := keptTo_no (by rw [HOL.out]; exact htl) HX5.out (okB_no hok)
                    have hsplit : x < 0 ∨ (0 ≤ x ∧ ¬ x < n) := by omega
                    clear hok
                    rcases hsplit with ho1 | ⟨ho1, ho2⟩
                    all_goals
                      go_wp2_with fail
                      go_round
                      case rel => exact ⟨t + 1, by omega, by go_num, by rw [HE.out]⟩
                      case measure => simp [intOf]; omega
                have hfin : (keptTo n xs t).length = gl := by rw [keptTo_all n xs t (by rw [HOL.out]; omega), ← HYX.out]; exact HGL.out
                have hfinb : (((keptTo n xs t).length : Int) == (gl : Int)) = true := by rw [hfin]; simp
                clear hfin
                go_wp2_with fail
                go_round
                case rel => exact ⟨k + 1, by omega, by go_num⟩
                case measure => simp [intOf]; omega
            · have hys : ys = [] := by rw [← HY.out, fitted_at n Xs k hlt]; simp [List.getElem?_eq_none (show Xs.length ≤ k by rw [HLX.out]; omega)]
              subst hys
              clear hrF
              go_wp2_with fail
              go_loop [22, 156] (fun z i => z = .int .i64 0 ∧ i = .int .i64 0) (fun _ _ => 0)
              case atStart => exact ⟨rfl, rfl⟩
              case round =>
                obtain ⟨rfl, rfl⟩ := hrel
                go_wp2_with fail
                go_round
                case rel => exact ⟨k + 1, by omega, by go_num⟩
                case measure => simp [intOf]; omega
          · go_wp2_with fail
            go_ret
            exact ⟨rfl, ⟨HM.out.bw.os, HM.out.bw.tape, HM.out.bw.output, HM.out.bw.size, HM.out.bw.block⟩⟩

end Go.Proofs.Qxb6623382a
