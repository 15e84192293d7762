import Derived.Test.Qxb6623417aFoldP
namespace Go.Proofs.Qxb6623417a
open Go.ChangeShapes Go.WideShapes Go.ChangeAt Go.RowKit

theorem cnt_succ (S : Nat → ByteArray) (k : Nat) : cnt S (k + 1) = cnt S k + (16 + (S k).size) := rfl

set_option maxRecDepth 100000 in
set_option maxHeartbeats 2000000 in
theorem fold_walk (b off n cap : Nat) (S : Nat → ByteArray) (w : World) (hn : n ≤ maxLen) (hS : ∀ i, i < n → (S i).size ≤ maxLen) (hc : Segs w b off n S) (hbw : b < w.heap.size) :
    Calls Try.prog 3 #[.slice (some ⟨b, off, none⟩) n cap] w fun e w' => e = .returned (.bool true) ∧ Below w.heap.size w w' := by
  have HC : Hid (Segs w b off n S) := hc
  have HS : Hid (∀ i, i < n → (S i).size ≤ maxLen) := hS
  clear hc hS
  have hn' := hn
  unfold maxLen at hn'
  go_enter Try.func3, Try.ntmps3
  go_wp2_with fail
  refine (bytes5 b off n cap S _ hn HS.out HC.out).mono ?_
  rintro e w1 ⟨t, rfl, ht, h⟩
  subst h
  cases t
  · go_wp2_with fail
    go_ret
    exact ⟨rfl, Below.refl _ _⟩
  obtain ⟨hn1, hS1⟩ := ht rfl
  have HS1 : Hid (∀ i, i < n → (S i).size ≤ 1048576) := hS1
  clear hS1 ht HS
  by_cases h4 : 4096 < n
  · go_wp2_with fail
    go_ret
    exact ⟨rfl, Below.refl _ _⟩
  go_wp2_with fail
  go_loop [3, 4] (fun z i => ∃ k : Nat, k ≤ n ∧ i = .int .i64 k ∧ z = .int .i64 (cnt S k) ∧ cnt S k ≤ 65536) (fun _ i => n - (intOf i).toNat)
  case atStart => exact ⟨0, Nat.zero_le _, rfl, rfl, Nat.zero_le _⟩
  case round =>
    obtain ⟨k, hk, rfl, rfl, hcnt⟩ := hrel
    by_cases hlt : k < n
    · have hcell := HC.out k hlt
      have hsz := HS1.out k hlt
      have hcs := cnt_succ S k
      have HCS : Hid (cnt S (k + 1) = cnt S k + (16 + (S k).size)) := hcs
      clear hcs
      by_cases hbig : 65536 < cnt S k + (16 + (S k).size)
      · go_wp2_with fail
        go_ret
        exact ⟨rfl, Below.refl _ _⟩
      · go_wp2_with fail
        go_round
        case rel => exact ⟨k + 1, by omega, by go_num, by rw [HCS.out]; go_num, by rw [HCS.out]; omega⟩
        case measure => simp [intOf]; omega
    have ek : n = k := by omega
    subst ek
    go_wp2_with fail
    go_loop [5, 6] (fun z i => ∃ k : Nat, k ≤ n ∧ i = .int .i64 k ∧ z = .string (foldJ S k)) (fun _ i => n - (intOf i).toNat)
    case atStart => exact ⟨0, Nat.zero_le _, rfl, rfl⟩
    case round =>
      obtain ⟨k, hk2, rfl, rfl⟩ := hrel
      by_cases hlt2 : k < n
      · have hcell := HC.out k hlt2
        have hsz := HS1.out k hlt2
        have f1 := size_foldJ S k
        have f2 := cnt_mono S k n hk2
        go_wp2_with fail
        refine (zzjoin_calls (foldJ S k) (S k) _ (by omega) (by omega) (foldJ S (k + 1)) rfl).mono ?_
        rintro e w2 ⟨rfl, h⟩
        subst h
        go_wp2_with fail
        go_round
        case rel => exact ⟨k + 1, by omega, by go_num, rfl⟩
        case measure => simp [intOf]; omega
      have ek : n = k := by omega
      subst ek
      go_wp2_with fail
      go_loop [7] (fun i => ∃ k : Nat, k ≤ n ∧ i = .int .i64 k ∧ ∀ j, j < k → S j = ByteArray.empty) (fun i => n - (intOf i).toNat)
      case atStart => exact ⟨0, Nat.zero_le _, rfl, fun j hj => by omega⟩
      case round =>
        obtain ⟨k, hk3, rfl, hemp⟩ := hrel
        have HE : Hid (∀ j, j < k → S j = ByteArray.empty) := hemp
        clear hemp
        by_cases hgo : k < n ∧ S k = ByteArray.empty
        · obtain ⟨hlt3, hSk⟩ := hgo
          have hcell := HC.out k hlt3
          rw [hSk] at hcell
          have HK : Hid (S k = ByteArray.empty) := hSk
          clear hSk
          go_wp2_with fail
          go_round
          case rel =>
            refine ⟨k + 1, by omega, by go_num, ?_⟩
            intro j hj
            by_cases e : j = k
            · subst e; exact HK.out
            · exact HE.out j (by omega)
          case measure => simp [intOf]; omega
        have HN : Hid (k < n → ¬ S k = ByteArray.empty) := fun h e => hgo ⟨h, e⟩
        have HF : Hid (foldJ S k = ByteArray.empty) := foldJ_emp S k HE.out
        clear hgo HE
        have hB : w1.heap.size ≤ w1.heap.size := Nat.le_refl _
        generalize hBB : w1.heap.size = B at hB
        have HB : Hid (w1.heap.size = B) := hBB
        have hB' : B ≤ w1.heap.size := Nat.le_of_eq hBB.symm
        have hbB : b < B := by omega
        clear hBB
        by_cases hlt3 : k < n
        · have hcell := HC.out k hlt3
          have hne := not_empty (HN.out hlt3)
          go_wp2_with fail
          clear hcell hne
          go_loopw [8, 9] (fun v i wr => ∃ m : Nat, k ≤ m ∧ m ≤ n ∧ i = .int .i64 m ∧ Buf B wr v (foldJ S m) ∧ Below B w1 wr ∧ (k < m → ¬ foldJ S m = ByteArray.empty)) (fun _ i _ => n - (intOf i).toNat)
          case atStart => exact ⟨k, Nat.le_refl _, hk3, rfl, by rw [HF.out]; exact Buf.nil _ _, Below.refl _ _, fun h => absurd h (Nat.lt_irrefl _)⟩
          case round =>
            obtain ⟨m, hkm, hmn, rfl, hbuf, hbel, hnz⟩ := hrel
            have HZ : Hid (k < m → ¬ foldJ S m = ByteArray.empty) := hnz
            clear hnz
            have f1 := size_foldJ S m
            have f2 := cnt_mono S m n hmn
            have z1 : (⟨#[46]⟩ : ByteArray).size ≤ 1 := Nat.le_refl _
            have hg := hbel.size
            by_cases hlt4 : m < n
            · have hcell := (HC.out.below hbel hbB) m hlt4
              have hsz := HS1.out m hlt4
              by_cases hkm2 : k < m
              · have hx := foldJ_next S m (HZ.out hkm2)
                have HX : Hid (foldJ S (m + 1) = foldJ S m ++ ⟨#[46]⟩ ++ S m) := hx.1
                have HX2 : Hid (¬ foldJ S (m + 1) = ByteArray.empty) := hx.2
                clear hx
                go_wp2_with (first | (at_builtin; refine wpList_app_dot rfl (.tmp 67) (.tmp 68) rfl B _ (foldJ S m) rfl hbuf rfl (by omega) (by omega) ?_; intro v1 x1 b1 l1; have g1 := l1.size; have hcell1 := ((HC.out.below hbel hbB).below l1 hbB) m hlt4; clear hcell) | (at_builtin; refine wpList_app_str rfl (.tmp 70) (.tmp 74) rfl B v1 (foldJ S m ++ ⟨#[46]⟩) (S m) rfl b1 rfl (by simp only [ByteArray.size_append]; omega) (by omega) ?_; intro v2 x2 b2 l2))
                go_roundw
                case rel => exact ⟨m + 1, by omega, by omega, by go_num, by rw [HX.out]; exact b2, (hbel.trans l1).trans l2, fun _ => HX2.out⟩
                case measure => simp [intOf]; omega
              · obtain rfl : m = k := by omega
                have hx := foldJ_first S m HF.out
                have HX : Hid (foldJ S (m + 1) = S m) := hx
                clear hx
                go_wp2_with (first | (at_builtin; refine wpList_app_str rfl (.tmp 70) (.tmp 74) rfl B _ (foldJ S m) (S m) rfl hbuf rfl (by omega) (by omega) ?_; intro v2 x2 b2 l2))
                rw [HF.out] at b2
                go_roundw
                case rel => exact ⟨m + 1, by omega, by omega, by go_num, by rw [HX.out]; simpa using b2, hbel.trans l2, fun _ => by rw [HX.out]; exact HN.out hlt4⟩
                case measure => simp [intOf]; omega
            · obtain rfl : m = n := by omega
              have hcv := conv_buf hbuf
              go_wp2_with fail
              go_ret
              exact ⟨rfl, by rw [HB.out]; exact hbel⟩
        · obtain rfl : k = n := by omega
          have hcv := conv_buf (Buf.nil B w1)
          rw [← HF.out] at hcv
          go_wp2_with fail
          go_loop [8, 9] (fun v i => v = .slice none 0 0 ∧ i = .int .i64 k) (fun _ _ => 0)
          case atStart => exact ⟨rfl, rfl⟩
          case round =>
            obtain ⟨rfl, rfl⟩ := hrel
            go_wp2_with fail
            go_ret
            exact ⟨rfl, Below.refl _ _⟩

/-! ### The empty list: its address is whatever -/
set_option maxHeartbeats 1000000 in
theorem bytes5_nil (a : Option Addr) (cap : Nat) (w : World) :
    Calls Try.prog 5 #[.slice a 0 cap] w fun e w' => e = .returned (.bool true) ∧ w' = w := by
  go_enter Try.func5, Try.ntmps5
  go_wp2
  go_loop [4] (fun i => i = .int .i64 0) (fun _ => 0)
  case atStart => rfl
  case round =>
    subst hrel
    go_wp2
    go_ret
    exact ⟨rfl, rfl⟩

set_option maxRecDepth 100000 in
set_option maxHeartbeats 1000000 in
theorem fold_nil (a : Option Addr) (cap : Nat) (w : World) :
    Calls Try.prog 3 #[.slice a 0 cap] w fun e w' => e = .returned (.bool true) ∧ Below w.heap.size w w' := by
  have hcv := conv_buf (Buf.nil 0 w)
  go_enter Try.func3, Try.ntmps3
  go_wp2_with fail
  refine (bytes5_nil a cap _).mono ?_
  rintro e w1 ⟨rfl, h⟩
  subst h
  go_wp2_with fail
  go_loop [4] (fun i => i = .int .i64 0) (fun _ => 0)
  case atStart => rfl
  case round =>
    subst hrel
    go_wp2_with fail
    go_loop [5, 6] (fun v i => v = .string ⟨#[]⟩ ∧ i = .int .i64 0) (fun _ _ => 0)
    case atStart => exact ⟨rfl, rfl⟩
    case round =>
      obtain ⟨rfl, rfl⟩ := hrel
      go_wp2_with fail
      go_loop [7] (fun i => i = .int .i64 0) (fun _ => 0)
      case atStart => rfl
      case round =>
        subst hrel
        go_wp2_with fail
        go_loop [8, 9] (fun v i => v = .slice none 0 0 ∧ i = .int .i64 0) (fun _ _ => 0)
        case atStart => exact ⟨rfl, rfl⟩
        case round =>
          obtain ⟨rfl, rfl⟩ := hrel
          go_wp2_with fail
          go_ret
          exact ⟨rfl, Below.refl _ _⟩

end Go.Proofs.Qxb6623417a
