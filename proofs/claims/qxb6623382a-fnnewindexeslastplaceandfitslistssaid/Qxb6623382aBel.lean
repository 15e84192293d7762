import Derived.Test.Qxb6623382aMem
namespace Go.Proofs.Qxb6623382a
open Go.ChangeShapes Go.WideShapes Go.ChangeAt Go.RowKit

/-- A []int of the call's own that holds ys. -/
def Own (B : Nat) (w : World) (v : Value) (ys : List Int) : Prop := w.ownsRow B 3 1 v ys.length (ys.map (Value.int .i64))
theorem Own.nil (B : Nat) (w : World) : Own B w (.slice none 0 0) [] := World.ownsRow_nil _ _ _ _
theorem own_below {B : Nat} {w w' : World} {v : Value} {s : List Int} (h : Own B w v s) (hB : B ≤ w.heap.size) (hg : w.grownBy w' v.ownBlock) : Below B w w' :=
  (Below.refl B w).grown hg hB (fun k hk => (h.lt k hk).1)

/-- 'kept = append(kept, x)' -/
theorem wpList_app_int {w : World} {ops : Array Oper} {rest : List Oper} {o : Oper} {a : Act} {Q : Exit → Act → World → Prop} (hgd : o.guard = none) (sl x : Operand)
    (ho : o.op = .call { callee := .builtin .append, args := #[sl, x], argTypes := #[22, 22] })
    (B : Nat) (v : Value) (ys : List Int) (z : Int) (hs : a.eval sl = v) (hown : Own B w v ys) (hx : a.eval x = .slice (some ⟨w.heap.size, 0, none⟩) 1 1) (hsz : ys.length ≤ 8000000) (hB : B ≤ w.heap.size)
    (h : ∀ v' w', Own B w' v' (ys ++ [z]) → Below B w w' → wpList Try.prog ops Q rest (a.put o.dst v') w') : wpList Try.prog ops Q (o :: rest) a (w.alloc (.cells #[.int .i64 z] 3)) := by
  obtain ⟨i0, hi, hz0, hz1, hz2⟩ := info_parts Try.info3
  have hown' : Own B (w.alloc (.cells #[.int .i64 z] 3)) v ys := World.ownsRow.alloc hown _
  refine wpList_append_own _ hgd sl x 22 ho B 3 i0 (.int .i64 0) 1 8 Try.underlying22 hi hz0 hz1 hz2 rfl (by decide) v ys.length _ hs hown' ⟨w.heap.size, 0, none⟩ 1 1 [.int .i64 z] hx rfl (cell_one_new _ _ _) (ints_oneCell .i64 [z]) (by unfold maxLen; omega) (by omega) (by simp; omega) ?_
  intro v' w' h1 h2 _
  refine h v' w' ?_ (((Below.refl B w).alloc hB _).trans (own_below hown' (by simp; omega) h2))
  unfold Own
  simpa using h1

/-- Is x a place below n? -/
def okB (n : Int) (x : Int) : Bool := decide (0 ≤ x) && decide (x < n)
theorem okB_yes {n x : Int} (h0 : 0 ≤ x) (h1 : x < n) : okB n x = true := by simp [okB, h0, h1]
theorem okB_no {n x : Int} (h : ¬ (0 ≤ x ∧ x < n)) : okB n x = false := by
  cases e : okB n x
  · rfl
  · exact absurd (by simpa [okB] using e) h

/-- What is kept of the first k. -/
def keptTo (n : Int) (xs : List Int) (k : Nat) : List Int := (xs.take k).filter (okB n)
theorem keptTo_zero (n : Int) (xs : List Int) : keptTo n xs 0 = [] := rfl
theorem keptTo_le (n : Int) (xs : List Int) (k : Nat) : (keptTo n xs k).length ≤ k := by
  unfold keptTo
  exact Nat.le_trans (List.length_filter_le _ _) (by simp; omega)
theorem keptTo_yes {n : Int} {xs : List Int} {k : Nat} {x : Int} (hk : k < xs.length) (hx : xs.getD k 0 = x) (h : okB n x = true) : keptTo n xs (k + 1) = keptTo n xs k ++ [x] := by
  have e : xs[k] = x := by rw [← hx]; simp [List.getElem?_eq_getElem hk]
  unfold keptTo
  rw [List.take_succ_eq_append_getElem hk, List.filter_append, e]
  simp [h]
theorem keptTo_no {n : Int} {xs : List Int} {k : Nat} {x : Int} (hk : k < xs.length) (hx : xs.getD k 0 = x) (h : okB n x = false) : keptTo n xs (k + 1) = keptTo n xs k := by
  have e : xs[k] = x := by rw [← hx]; simp [List.getElem?_eq_getElem hk]
  unfold keptTo
  rw [List.take_succ_eq_append_getElem hk, List.filter_append, e]
  simp [h]
theorem keptTo_all (n : Int) (xs : List Int) (k : Nat) (h : xs.length ≤ k) : keptTo n xs k = xs.filter (okB n) := by
  unfold keptTo
  rw [List.take_of_length_le h]

/-- A row's own facts, apart from its value. -/
def RowAt (p : Nat → Prop) (w : World) (a : Option Addr) (xs : List Int) : Prop := ∀ j, j < xs.length → ∃ b off, a = some ⟨b, off, none⟩ ∧ p b ∧ w.cell? ⟨b, off + j, none⟩ = some (.int .i64 (xs.getD j 0))
theorem RowP.open {p : Nat → Prop} {w : World} {v : Value} {xs : List Int} (h : RowP p w v xs) : ∃ a cap, v = .slice a xs.length cap ∧ RowAt p w a xs := h
theorem RowAt.close {p : Nat → Prop} {w : World} {a : Option Addr} {xs : List Int} (h : RowAt p w a xs) (cap n : Nat) (hn : xs.length = n) : RowP p w (.slice a n cap) xs := by subst hn; exact ⟨a, cap, rfl, h⟩
theorem RowAt.at {p : Nat → Prop} {w : World} {a : Option Addr} {xs : List Int} (h : RowAt p w a xs) {n k : Nat} (hn : xs.length = n) (hk : k < n) : ∃ b off x, a = some ⟨b, off, none⟩ ∧ p b ∧ w.cell? ⟨b, off + k, none⟩ = some (.int .i64 x) ∧ Hid (xs.getD k 0 = x) := by
  obtain ⟨b, off, ha, hp, hc⟩ := h k (by omega)
  exact ⟨b, off, _, ha, hp, hc, rfl⟩
theorem RowAt.keep {p : Nat → Prop} {w w' : World} {a : Option Addr} {xs : List Int} (h : RowAt p w a xs) (hs : Same p w w') : RowAt p w' a xs := by
  intro j hj
  obtain ⟨b, off, ha, hp, hc⟩ := h j hj
  exact ⟨b, off, ha, hp, (World.cell?_of_block (a := ⟨b, off + j, none⟩) (hs b hp (cell_lt hc))).trans hc⟩

set_option maxHeartbeats 1000000 in
theorem below_calls (p : Nat → Prop) (v : Value) (xs : List Int) (n : Int) (w : World) (h : RowP p w v xs) (hsz : xs.length ≤ 1048576) :
    Calls Try.prog 10 #[v, .int .i64 n] w fun e w' => ∃ v', e = .returned v' ∧ RowP (fun b => w.heap.size ≤ b) w' v' (xs.filter (okB n)) ∧ Below w.heap.size w w' := by
  obtain ⟨a, cap, rfl, hr⟩ := h.open
  have HR : Hid (RowAt p w a xs) := hr
  clear hr h
  generalize hl : xs.length = len at *
  have HL : Hid (xs.length = len) := hl
  clear hl
  generalize hBB : w.heap.size = B at *
  have HB : Hid (w.heap.size = B) := hBB
  have hB' : B ≤ w.heap.size := Nat.le_of_eq hBB.symm
  clear hBB
  go_enter Try.func10, Try.ntmps10
  go_wp2_with fail
  go_loopw [5, 10] (fun v i wr => ∃ k : Nat, k ≤ len ∧ i = .int .i64 k ∧ Own B wr v (keptTo n xs k) ∧ Below B w wr) (fun _ i _ => len - (intOf i).toNat)
  case atStart => exact ⟨0, Nat.zero_le _, rfl, Own.nil _ _, Below.refl _ _⟩
  case round =>
    obtain ⟨k, hk, rfl, hown, hbel⟩ := hrel
    have hkl := keptTo_le n xs k
    have hg := hbel.size
    by_cases hlt : k < len
    · obtain ⟨b, off, x, rfl, hp, hcell0, HX⟩ := HR.out.at HL.out hlt
      have hbw : b < B := by rw [← HB.out]; exact cell_lt hcell0
      have hcell : _ := (hbel.cell (p := ⟨b, off + k, none⟩) hbw).trans hcell0
      clear hcell0
      have hk' : k < xs.length := by rw [HL.out]; exact hlt
      by_cases hok : 0 ≤ x ∧ x < n
      · obtain ⟨ho1, ho2⟩ := hok
        have HE : Hid (keptTo n xs (k + 1) = keptTo n xs k ++ [x]) := keptTo_yes hk' HX.out (okB_yes ho1 ho2)
        go_wp2_with (at_builtin; refine wpList_app_int rfl (.tmp 21) (.tmp 23) rfl B _ (keptTo n xs k) x rfl hown rfl (by omega) (by omega) ?_; intro v1 x1 b1 l1)
        go_roundw
        case rel => exact ⟨k + 1, by omega, by go_num, by rw [HE.out]; exact b1, hbel.trans l1⟩
        case measure => simp [intOf]; omega
      · have HE : Hid (keptTo n xs (k + 1) = keptTo n xs k) := keptTo_no hk' HX.out (okB_no hok)
        by_cases ho1 : 0 ≤ x
        · have ho2 : ¬ x < n := fun h => hok ⟨ho1, h⟩
          clear hok
          go_wp2_with fail
          go_roundw
          case rel => exact ⟨k + 1, by omega, by go_num, by rw [HE.out]; exact hown, hbel⟩
          case measure => simp [intOf]; omega
        · clear hok
          go_wp2_with fail
          go_roundw
          case rel => exact ⟨k + 1, by omega, by go_num, by rw [HE.out]; exact hown, hbel⟩
          case measure => simp [intOf]; omega
    · go_wp2_with fail
      go_ret
      have he := keptTo_all n xs k (by rw [HL.out]; omega)
      rw [he] at hown
      exact ⟨_, rfl, RowP.own hown, hbel⟩

end Go.Proofs.Qxb6623382a
