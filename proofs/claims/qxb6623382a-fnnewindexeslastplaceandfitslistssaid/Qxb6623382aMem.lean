import Derived.Test.Qxb6623382aRows
import Derived.WalkKit
import Derived.ProofKit
import Derived.OpenShut
import Derived.WalkSpells
import Derived.Laws.CopyOwn
import Derived.Laws.OwnMore
import Derived.Lib.LazyBuf
import Derived.Maps.AppendAt
import Derived.Maps.OwnSet
import Derived.Maps.OwnOps
import Derived.Deep.RegionHeld3
import Derived.BigQuiet
import Derived.Deep.QuietTactic
namespace Go.Proofs.Qxb6623382a
open Go.ChangeShapes Go.WideShapes Go.ChangeAt Go.RowKit

theorem Try.info3 : (Try.prog.info? 3).map (fun i => (i.zero, i.size, i.bytes)) = some (some (.int .i64 0), 1, 8) := by kernel_rfl
theorem Try.info22 : (Try.prog.info? 22).map (fun i => (i.zero, i.size, i.bytes)) = some (some (.slice none 0 0), 1, 24) := by kernel_rfl
theorem Try.size3 : (Try.prog.info? 3).map (·.size) = some 1 := by kernel_rfl
theorem Try.size22 : (Try.prog.info? 22).map (·.size) = some 1 := by kernel_rfl

/-- v is a slice that holds the numbers xs; where there is one, its block meets p. -/
def RowP (p : Nat → Prop) (w : World) (v : Value) (xs : List Int) : Prop :=
  ∃ a cap, v = .slice a xs.length cap ∧ ∀ j, j < xs.length → ∃ b off, a = some ⟨b, off, none⟩ ∧ p b ∧ w.cell? ⟨b, off + j, none⟩ = some (.int .i64 (xs.getD j 0))

/-- v is a slice of slices that holds the lists Xs: its own block meets p, its elements' blocks meet q. -/
def RowsP (p q : Nat → Prop) (w : World) (v : Value) (Xs : List (List Int)) : Prop :=
  ∃ a cap, v = .slice a Xs.length cap ∧ ∀ j, j < Xs.length → ∃ b off u, a = some ⟨b, off, none⟩ ∧ p b ∧ w.cell? ⟨b, off + j, none⟩ = some u ∧ RowP q w u (Xs.getD j [])

theorem cell_lt {W : World} {a : Addr} {v : Value} (h : W.cell? a = some v) : a.block < W.heap.size := by
  by_cases hb : a.block < W.heap.size
  · exact hb
  · simp [World.cell?, Array.getElem?_eq_none (Nat.le_of_not_lt hb)] at h

/-- Nothing that meets p has turned. -/
def Same (p : Nat → Prop) (w w' : World) : Prop := ∀ b, p b → b < w.heap.size → w'.heap[b]? = w.heap[b]?

theorem RowP.keep {p q : Nat → Prop} {w w' : World} {v : Value} {xs : List Int} (h : RowP p w v xs) (hs : Same p w w') (hpq : ∀ b, p b → b < w.heap.size → q b) : RowP q w' v xs := by
  obtain ⟨a, cap, hv, hr⟩ := h
  refine ⟨a, cap, hv, fun j hj => ?_⟩
  obtain ⟨b, off, ha, hp, hc⟩ := hr j hj
  have hl : b < w.heap.size := cell_lt hc
  exact ⟨b, off, ha, hpq b hp hl, (World.cell?_of_block (a := ⟨b, off + j, none⟩) (hs b hp hl)).trans hc⟩

theorem RowsP.keep {p q p' q' : Nat → Prop} {w w' : World} {v : Value} {Xs : List (List Int)} (h : RowsP p q w v Xs) (hs : Same (fun b => p b ∨ q b) w w') (hp' : ∀ b, p b → b < w.heap.size → p' b) (hq' : ∀ b, q b → b < w.heap.size → q' b) : RowsP p' q' w' v Xs := by
  obtain ⟨a, cap, hv, hr⟩ := h
  refine ⟨a, cap, hv, fun j hj => ?_⟩
  obtain ⟨b, off, u, ha, hp, hc, hu⟩ := hr j hj
  have hl : b < w.heap.size := cell_lt hc
  exact ⟨b, off, u, ha, hp' b hp hl, (World.cell?_of_block (a := ⟨b, off + j, none⟩) (hs b (.inl hp) hl)).trans hc, hu.keep (fun b hb => hs b (.inr hb)) hq'⟩

theorem Same.below {p : Nat → Prop} {w w' : World} (h : Below w.heap.size w w') : Same p w w' := fun b _ hb => h.block b hb
theorem Same.below' {p : Nat → Prop} {B : Nat} {w w' : World} (h : Below B w w') (hp : ∀ b, p b → b < B) : Same p w w' := fun b hb _ => h.block b (hp b hb)
theorem Same.grown {p : Nat → Prop} {w w' : World} {row : Option Nat} (h : w.grownBy w' row) (hp : ∀ b, p b → some b ≠ row) : Same p w w' := fun b hb hl => h.block b hl (hp b hb)
theorem Same.drewN {p : Nat → Prop} (w : World) (n : Nat) : Same p w (w.drewN n) := fun _ _ _ => rfl

/-- A row that the call owns, as a descriptor. -/
theorem RowP.own {B : Nat} {w : World} {v : Value} {xs : List Int} (h : w.ownsRow B 3 1 v xs.length (xs.map (Value.int .i64))) : RowP (fun b => B ≤ b) w v xs := by
  rcases h.2 with ⟨rfl, h0⟩ | ⟨g, cap, cur, rfl, hb, hg, hn, hm, hcs, htake⟩
  · exact ⟨none, 0, by rw [h0], fun j hj => by omega⟩
  · refine ⟨some ⟨g, 0, none⟩, cap, rfl, fun j hj => ⟨g, 0, rfl, hb, ?_⟩⟩
    rw [Nat.zero_add, h.cellAt j (by simpa using hj)]
    simp [List.getElem?_eq_getElem hj]

/-- The block behind an owned slice. -/
theorem own_list {w : World} {B e g n cap : Nat} {us : List Value} (h : w.ownsRow B e 1 (.slice (some ⟨g, 0, none⟩) n cap) n us) :
    ∃ cur : List Value, w.heap[g]? = some (.cells cur.toArray e (0, 0)) ∧ cur.length = cap ∧ n ≤ cap ∧ B ≤ g ∧ cur.take n = us := by
  rcases h.2 with ⟨h', _⟩ | ⟨g', cap', cur, h', hb, hg, hn, hm, hcs, htake⟩
  · simp at h'
  · simp only [Value.slice.injEq, Option.some.injEq, Addr.mk.injEq, and_true, true_and] at h'
    obtain ⟨rfl, rfl⟩ := h'
    exact ⟨cur.toList, by simpa using hg, by simpa using hcs, hn, hb, by simpa using htake⟩

theorem cells_at {w : World} {b off : Nat} {xs : List Int} (h : ∀ j, j < xs.length → w.cell? ⟨b, off + j, none⟩ = some (.int .i64 (xs.getD j 0))) :
    ∀ j v, (xs.map (Value.int .i64))[j]? = some v → w.cell? ((⟨b, off, none⟩ : Addr).add j) = some v := by
  intro j v hj
  have hl : j < xs.length := by
    have := (List.getElem?_eq_some_iff.1 hj).1
    simpa using this
  rw [Addr.add_lit, h j hl]
  simp [List.getElem?_eq_getElem hl] at hj
  simp [List.getElem?_eq_getElem hl, hj]

/-- The cells of a row, as a source for copy and append. -/
theorem row_src {p : Nat → Prop} {w w1 : World} {a : Option Addr} {xs : List Int} (hr : ∀ j, j < xs.length → ∃ b off, a = some ⟨b, off, none⟩ ∧ p b ∧ w.cell? ⟨b, off + j, none⟩ = some (.int .i64 (xs.getD j 0))) (hs : Same p w w1) :
    0 < (xs.map (Value.int .i64)).length → ∃ ad, a = some ad ∧ ∀ j v, (xs.map (Value.int .i64))[j]? = some v → w1.cell? (ad.add j) = some v := by
  intro hpos
  obtain ⟨b, off, hx, _⟩ := hr 0 (by simpa using hpos)
  subst hx
  refine ⟨_, rfl, cells_at fun j hj => ?_⟩
  obtain ⟨b', off', hx', hp', hc'⟩ := hr j hj
  simp at hx'
  obtain ⟨rfl, rfl⟩ := hx'
  exact (World.cell?_of_block (a := ⟨b, off + j, none⟩) (hs b hp' (cell_lt hc'))).trans hc'

/-- A block that holds just these numbers. -/
theorem RowP.block {B : Nat} {w : World} {g : Nat} {xs : List Int} (hg : w.heap[g]? = some (.cells (xs.map (Value.int .i64)).toArray 3 (0, 0))) (hB : B ≤ g) (n : Nat) (hn : xs.length = n) : RowP (fun b => B ≤ b) w (.slice (some ⟨g, 0, none⟩) n n) xs := by
  subst hn
  refine ⟨some ⟨g, 0, none⟩, xs.length, rfl, fun j hj => ⟨g, 0, rfl, hB, ?_⟩⟩
  rw [Nat.zero_add, cell_of_row w g j _ 3 (0, 0) hg]
  simp [List.getElem?_eq_getElem hj]

set_option maxHeartbeats 1000000 in
theorem copyInts_calls (p : Nat → Prop) (v : Value) (xs : List Int) (w : World) (h : RowP p w v xs) (hsz : xs.length ≤ 1048576) :
    Calls Try.prog 5 #[v] w fun e w' => ∃ v', e = .returned v' ∧ RowP (fun b => w.heap.size ≤ b) w' v' xs ∧ Below w.heap.size w w' := by
  obtain ⟨i0, hi, hz0, hz1, hz2⟩ := info_parts Try.info3
  obtain ⟨a, cap, rfl, hr⟩ := h
  have HR : Hid (∀ j, j < xs.length → ∃ b off, a = some ⟨b, off, none⟩ ∧ p b ∧ w.cell? ⟨b, off + j, none⟩ = some (.int .i64 (xs.getD j 0))) := hr
  clear hr
  have hq := fun (w : World) => Lib.run_eql_slice_nil (P := Try.prog) w 22 3 a xs.length cap 0 0 Try.underlying22
  cases a with
  | none =>
    have h0 : xs = [] := by
      cases xs with
      | nil => rfl
      | cons x l =>
        obtain ⟨b, off, ha, _⟩ := HR.out 0 (by simp)
        cases ha
    subst h0
    clear hq
    have hq := fun (w : World) => Lib.run_eql_slice_nil (P := Try.prog) w 22 3 none 0 cap 0 0 Try.underlying22
    go_enter Try.func5, Try.ntmps5
    go_wp2
    go_ret
    exact ⟨_, rfl, ⟨none, 0, rfl, fun j hj => by simp at hj⟩, Below.refl _ _⟩
  | some x =>
    have HK : Hid (∀ w1 : World, w.grownBy w1 none → 0 < (xs.map (Value.int .i64)).length → ∃ ad, some x = some ad ∧ ∀ j v, (xs.map (Value.int .i64))[j]? = some v → w1.cell? (ad.add j) = some v) :=
      fun w1 hg => row_src HR.out (Same.grown hg (fun _ _ => by simp))
    clear HR
    have HM : Hid ((xs.map (Value.int .i64)).length = xs.length) := by show _ = _; simp
    generalize hm : xs.map (Value.int .i64) = ms at HK HM
    have HS : Hid (xs.map (Value.int .i64) = ms) := hm
    have h1 : ∀ u ∈ ms, u.oneCell' = true := by rw [← hm]; exact ints_oneCell _ _
    have H1 : Hid (∀ u ∈ ms, u.oneCell' = true) := h1
    clear hm h1
    generalize hl : xs.length = n at *
    have HL : Hid (xs.length = n) := hl
    clear hl
    go_enter Try.func5, Try.ntmps5
    go_wp2_with (first | (at_make; refine wpList_make_full _ rfl (.tmp 7) (.tmp 7) 22 rfl w.heap.size 3 i0 (.int .i64 0) 1 Try.underlying22 hi hz0 hz1 .i64 .i64 _ _ n rfl rfl rfl rfl (by rw [hz2]; omega) (by unfold maxLen; omega) (Nat.le_refl _) ?_; intro w1 hown hgrow; obtain ⟨cur, hcg, hcl, _⟩ := own_list hown) | (have _t := hcg; refine wpList_copy_splice rfl (.tmp 9) (.tmp 10) 22 22 rfl 3 Try.underlying22 Try.size3 (some ⟨w.heap.size, 0, none⟩) (some x) n n n cap rfl rfl w.heap.size 0 cur 3 hcg ms (by rw [HM.out]; simp) (fun h => ⟨rfl, HK.out w1 hgrow h⟩) (by rw [HM.out]; omega) H1.out w.heap.size w ((Below.refl _ w).grown hgrow (Nat.le_refl _) (fun k hk => by cases hk)) (Nat.le_refl _) ?_; intro w2 hg2 hb2))
    go_ret
    refine ⟨_, rfl, ?_, hb2⟩
    have hs : splice cur 0 ms = ms := by
      simp [splice]
      rw [HM.out]; omega
    have h3 := hg2.out
    rw [hs, ← HS.out] at h3
    exact RowP.block h3 (Nat.le_refl _) n HL.out

end Go.Proofs.Qxb6623382a
