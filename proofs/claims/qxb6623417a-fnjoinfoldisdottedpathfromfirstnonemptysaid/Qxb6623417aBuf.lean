import Derived.Test.Qxb6623417aRows
import Derived.WalkKit
import Derived.ProofKit
import Derived.OpenShut
import Derived.ShutString
import Derived.WalkSpells
import Derived.Lib.AppendStr
import Derived.Laws.IdiomStrings
import Derived.Maps.AppendAt
import Derived.Deep.RegionWith
namespace Go.Proofs.Qxb6623417a
open Go.ChangeShapes Go.WideShapes Go.ChangeAt Go.RowKit

theorem not_empty {c : ByteArray} (h : ¬ c = ByteArray.empty) : c.toList.isEmpty = false := by
  rw [ByteArray.toList_eq]
  cases hx : c.data.toList with
  | nil => exact absurd (bytes_inj (b := ByteArray.empty) (by rw [hx]; rfl)) h
  | cons => rfl

/-- config.join -/
def joinS (p k : ByteArray) : ByteArray := if p = ByteArray.empty then k else p ++ ⟨#[46]⟩ ++ k

theorem size_joinS (p k : ByteArray) : (joinS p k).size ≤ p.size + k.size + 1 := by
  have h1 : (⟨#[46]⟩ : ByteArray).size = 1 := rfl
  unfold joinS
  split
  · omega
  · simp only [ByteArray.size_append]; omega

set_option maxHeartbeats 400000 in
theorem join_calls (p k : ByteArray) (w : World) (hp : p.size ≤ 8000000) (hk : k.size ≤ 8000000) :
    Calls Try.prog 8 #[.string p, .string k] w fun e w' => e = .returned (.string (joinS p k)) ∧ w' = w := by
  by_cases h : p = ByteArray.empty
  · subst h
    go_enter Try.func8, Try.ntmps8
    go_wp2
    go_ret
    exact ⟨rfl, rfl⟩
  · have he : joinS p k = p ++ ⟨#[46]⟩ ++ k := by simp [joinS, h]
    rw [he]
    have hn := not_empty h
    go_enter Try.func8, Try.ntmps8
    go_wp2
    go_ret
    exact ⟨rfl, rfl⟩

set_option maxHeartbeats 400000 in
theorem zzjoin_calls (p k : ByteArray) (w : World) (hp : p.size ≤ 8000000) (hk : k.size ≤ 8000000) (r : ByteArray) (hr : joinS p k = r) :
    Calls Try.prog 6 #[.string p, .string k] w fun e w' => e = .returned (.string r) ∧ w' = w := by
  subst hr
  go_enter Try.func6, Try.ntmps6
  go_wp2_with (go_at_call 8; refine (join_calls p k _ hp hk).mono ?_; rintro e w' ⟨rfl, rfl⟩)
  go_ret
  exact ⟨rfl, rfl⟩

/-- A []byte of the call's own that holds the bytes of s. -/
def Buf (B : Nat) (w : World) (v : Value) (s : ByteArray) : Prop := w.ownsRow B 5 1 v s.size (Lib.strCells s)

theorem Try.info5 : (Try.prog.info? 5).map (fun i => (i.zero, i.size, i.bytes)) = some (some (.int .u8 0), 1, 1) := by kernel_rfl

theorem strCells_append (s t : ByteArray) : Lib.strCells (s ++ t) = Lib.strCells s ++ Lib.strCells t := by
  simp [Lib.strCells, ByteArray.data_append]

theorem Buf.nil (B : Nat) (w : World) : Buf B w (.slice none 0 0) ByteArray.empty := World.ownsRow_nil _ _ _ _

theorem Buf.drew {B : Nat} {w : World} {v : Value} {s : ByteArray} (h : Buf B w v s) : Buf B w.drew v s := h

theorem own_below {B : Nat} {w w' : World} {v : Value} {s : ByteArray} (h : Buf B w v s) (hB : B ≤ w.heap.size) (hg : w.grownBy w' v.ownBlock) : Below B w w' :=
  (Below.refl B w).grown hg hB (fun k hk => (h.lt k hk).1)

/-- 'buf = append(buf, t...)', t a string. -/
theorem wpList_app_str {w : World} {ops : Array Oper} {rest : List Oper} {o : Oper} {a : Act} {Q : Exit → Act → World → Prop} (hgd : o.guard = none) (sl x : Operand)
    (ho : o.op = .call { callee := .builtin .append, args := #[sl, x], argTypes := #[25, 9] })
    (B : Nat) (v : Value) (s t : ByteArray) (hs : a.eval sl = v) (hown : Buf B w v s) (hx : a.eval x = .string t) (hsz : s.size + t.size ≤ 8000000) (hB : B ≤ w.heap.size)
    (h : ∀ v' w', Buf B w' v' (s ++ t) → Below B w w' → wpList Try.prog ops Q rest (a.put o.dst v') w') : wpList Try.prog ops Q (o :: rest) a w := by
  obtain ⟨i0, hi, hz0, hz1, hz2⟩ := info_parts Try.info5
  refine Lib.wpList_append_own_string _ hgd sl x 25 9 ho B 5 i0 Try.underlying25 Try.underlying9 hi hz0 hz1 hz2 v s.size (Lib.strCells s) hs hown t hx (by unfold maxLen; omega) (by omega) hB ?_
  intro v' w' h1 h2 _
  refine h v' w' ?_ (own_below hown hB h2)
  unfold Buf
  rw [strCells_append, ByteArray.size_append]
  exact h1

/-- 'buf = append(buf, '.')' -/
theorem wpList_app_dot {w : World} {ops : Array Oper} {rest : List Oper} {o : Oper} {a : Act} {Q : Exit → Act → World → Prop} (hgd : o.guard = none) (sl x : Operand)
    (ho : o.op = .call { callee := .builtin .append, args := #[sl, x], argTypes := #[25, 25] })
    (B : Nat) (v : Value) (s : ByteArray) (hs : a.eval sl = v) (hown : Buf B w v s) (hx : a.eval x = .slice (some ⟨w.heap.size, 0, none⟩) 1 1) (hsz : s.size ≤ 8000000) (hB : B ≤ w.heap.size)
    (h : ∀ v' w', Buf B w' v' (s ++ ⟨#[46]⟩) → Below B w w' → wpList Try.prog ops Q rest (a.put o.dst v') w') : wpList Try.prog ops Q (o :: rest) a (w.alloc (.cells #[.int .u8 46] 5)) := by
  obtain ⟨i0, hi, hz0, hz1, hz2⟩ := info_parts Try.info5
  have hown' : Buf B (w.alloc (.cells #[.int .u8 46] 5)) v s := World.ownsRow.alloc hown _
  refine wpList_append_own _ hgd sl x 25 ho B 5 i0 (.int .u8 0) 1 1 Try.underlying25 hi hz0 hz1 hz2 rfl (by decide) v s.size (Lib.strCells s) hs hown' ⟨w.heap.size, 0, none⟩ 1 1 [.int .u8 46] hx rfl (cell_one_new _ _ _) ?_ (by unfold maxLen; omega) (by omega) (by simp; omega) ?_
  · intro u hu; simp at hu; subst hu; rfl
  intro v' w' h1 h2 _
  refine h v' w' ?_ (((Below.refl B w).alloc hB _).trans (own_below hown' (by simp; omega) h2))
  unfold Buf
  rw [strCells_append, ByteArray.size_append]
  exact h1

/-- 'string(buf)' -/
theorem conv_buf {B : Nat} {w : World} {v : Value} {s : ByteArray} (h : Buf B w v s) : (convert 25 9 v).run Try.prog w = .ok (.string s) w := by
  have hs : s = ⟨s.data.toList.toArray⟩ := by simp
  rcases h.2 with ⟨rfl, h0⟩ | ⟨g, cap, cur, rfl, _, hg, hn, _, hcs, htake⟩
  · have he : s = ByteArray.empty := bytes_inj (by
      have : s.data.toList.length = 0 := by simpa using h0
      rw [List.eq_nil_of_length_eq_zero this]; rfl)
    subst he
    rw [run_convert_bytes_string w 25 9 5 none 0 0 Try.underlying25 Try.underlying5 Try.underlying9]
    rfl
  · have hl : s.size = s.data.toList.length := by simp
    rw [hl]
    conv => rhs; rw [hs]
    refine run_convert_bytes_back w 25 9 5 ⟨g, 0, none⟩ cap s.data.toList Try.underlying25 Try.underlying5 Try.underlying9 ?_
    intro j hj
    exact h.cells (g := g) rfl j _ (by simp [Lib.strCells, List.getElem?_eq_getElem hj])

end Go.Proofs.Qxb6623417a
