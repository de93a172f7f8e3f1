import Derived.Test.Qxb6627815aWalks
import Derived.Laws.RangeAny
namespace Go.Proofs.Qxb6627815a
open Go.RowKit

theorem grown_trans {a b c : World} (h1 : Grown a b) (h2 : Grown b c) : Grown a c :=
  ⟨World.keptBut_trans h1.1 h2.1, fun x => (h2.2.1 x).trans (h1.2.1 x), Nat.le_trans h1.2.2 h2.2.2⟩
theorem frozen?_iter (w : World) (s : ByteArray) (p : Nat) (a : Addr) : (w.iter s p).frozen? a = w.frozen? a := by
  by_cases h : a.block = w.heap.size
  · have e1 : (w.iter s p).heap[a.block]? = some (.stringIter s p) := by rw [h]; exact World.iter_heap w s p
    have e2 : w.heap[a.block]? = none := by rw [h]; simp
    simp [World.frozen?, e1, e2]
  · exact World.frozen?_alloc_old _ _ _ h
theorem grown_iter (w : World) (s : ByteArray) (p : Nat) : Grown w (w.iter s p) :=
  ⟨World.keptBut_alloc _ _ _, fun a => frozen?_iter w s p a, by show w.heap.size ≤ (w.heap.push _).size; simp⟩

theorem len_eq (s : ByteArray) : s.data.toList.length = s.size := (Lib.size_eq s).symm
/-- the next character's place -/
theorem step_at (s : ByteArray) (k i : Nat) (hi : i = offL k s.data.toList) (hlt : i < s.size) : offL (k + 1) s.data.toList = i + wl (s.data.toList.drop i) := by
  rw [offL_step k _ (by rw [← hi, len_eq]; exact hlt), ← hi]
theorem step_le (s : ByteArray) (k i : Nat) (hi : i = offL k s.data.toList) (hlt : i < s.size) : i + wl (s.data.toList.drop i) ≤ s.size := by
  rw [← step_at s k i hi hlt, ← len_eq]; exact offL_le _ _

set_option maxRecDepth 100000 in
theorem count6 (s : ByteArray) (w : World) (hs : s.size ≤ 1048576) :
    Calls Try.prog 6 #[.string s] w fun e w' => e = .returned (.int .i64 (cntL s.data.toList : Int)) ∧ w = w' := by
  go_enter Try.func6, Try.ntmps6
  go_wp2
  go_loop [3, 4] (fun c i => ∃ k j : Nat, k ≤ j ∧ j ≤ s.size ∧ c = .int .i64 k ∧ i = .int .i64 j ∧ Hid (j = offL k s.data.toList) ∧ Hid (k = 0 ∨ offL (k - 1) s.data.toList < s.data.toList.length)) (fun _ i => s.size - (intOf i).toNat)
  case atStart => exact ⟨0, 0, Nat.le_refl _, Nat.zero_le _, rfl, rfl, rfl, .inl rfl⟩
  case round =>
    obtain ⟨k, j, h1, h2, rfl, rfl, H, K⟩ := hrel
    by_cases hj : j < s.size
    · have e1 := step_le s k j H.out hj
      have e2 := wl_pos (s.data.toList.drop j)
      have E : Hid (j + wl (s.data.toList.drop j) = offL (k + 1) s.data.toList) := (step_at s k j H.out hj).symm
      have K2 : Hid (k + 1 = 0 ∨ offL (k + 1 - 1) s.data.toList < s.data.toList.length) := .inr (by rw [Nat.add_sub_cancel, ← H.out, len_eq]; exact hj)
      go_wp2_with (go_at_call 10; refine (width10 s j _ hs hj).mono ?_; rintro e w1 ⟨rfl, rfl⟩)
      go_round
      case rel => exact ⟨k + 1, j + wl (s.data.toList.drop j), by omega, by omega, by go_num, by go_num, E.out, K2.out⟩
      case measure => simp [intOf]; omega
    · go_wp2
      go_ret
      refine ⟨ret_int ?_, rfl⟩
      rw [cnt_is s.data.toList k (by rw [← H.out, len_eq]; exact hj) K.out]

set_option maxRecDepth 100000 in
theorem offset7 (s : ByteArray) (n : Nat) (w : World) (hs : s.size ≤ 1048576) (hn : (n : Int) ≤ 9223372036854775807) :
    Calls Try.prog 7 #[.string s, .int .i64 n] w fun e w' => e = .returned (.int .i64 (offL n s.data.toList : Int)) ∧ w = w' := by
  go_enter Try.func7, Try.ntmps7
  go_wp2
  go_loop [5, 6] (fun i c => ∃ k j : Nat, k ≤ j ∧ j ≤ s.size ∧ k ≤ n ∧ c = .int .i64 k ∧ i = .int .i64 j ∧ Hid (j = offL k s.data.toList)) (fun i _ => s.size - (intOf i).toNat)
  case atStart => exact ⟨0, 0, Nat.le_refl _, Nat.zero_le _, Nat.zero_le _, rfl, rfl, rfl⟩
  case round =>
    obtain ⟨k, j, h1, h2, h3, rfl, rfl, H⟩ := hrel
    by_cases hj : j < s.size
    · by_cases hk : k < n
      · have e1 := step_le s k j H.out hj
        have e2 := wl_pos (s.data.toList.drop j)
        have E : Hid (j + wl (s.data.toList.drop j) = offL (k + 1) s.data.toList) := (step_at s k j H.out hj).symm
        go_wp2_with (go_at_call 10; refine (width10 s j _ hs hj).mono ?_; rintro e w1 ⟨rfl, rfl⟩)
        go_round
        case rel => exact ⟨k + 1, j + wl (s.data.toList.drop j), by omega, by omega, by omega, by go_num, by go_num, E.out⟩
        case measure => simp [intOf]; omega
      · have Hk : Hid (k = n) := (by omega : k = n)
        go_wp2
        go_ret
        exact ⟨ret_int (by rw [H.out, Hk.out]), rfl⟩
    · go_wp2
      go_ret
      refine ⟨ret_int ?_, rfl⟩
      have e : offL k s.data.toList = s.data.toList.length := by rw [← H.out, len_eq]; omega
      rw [offL_full k n _ e h3, ← e, ← H.out]

/-- what Truncate hands back -/
def TruncP (s : ByteArray) (n : Int) (e : Ending) : Prop := ∃ (h : ByteArray) (cut : Bool), e = .returned (.tuple #[.string h, .bool cut]) ∧
  ((n < 0 ∧ h = s ∧ cut = false) ∨ (0 ≤ n ∧ h.data.toList = s.data.toList.take (offL n.toNat s.data.toList) ∧ cut = decide (offL n.toNat s.data.toList < s.size)))
theorem take_data (s : ByteArray) (j : Nat) : (s.extract 0 j).data.toList = s.data.toList.take j := by rw [Lib.extract_data]; simp

set_option maxRecDepth 100000 in
theorem trunc8 (s : ByteArray) (n : Int) (w : World) (hs : s.size ≤ 1048576) (hn0 : -9223372036854775808 ≤ n) (hn1 : n ≤ 9223372036854775807) :
    Calls Try.prog 8 #[.string s, .int .i64 n] w fun e w' => TruncP s n e ∧ Grown w w' := by
  go_enter Try.func8, Try.ntmps8
  go_wp2
  go_loopw [6] (fun c w' => ∃ k j : Nat, k ≤ j ∧ j ≤ s.size ∧ (n < 0 ∨ (k : Int) ≤ n) ∧ c = .int .i64 k ∧ Hid (j = offL k s.data.toList) ∧ w' = w.iter s j) (fun _ w' => s.size - w'.iterPos w.heap.size)
  case atStart => exact ⟨0, 0, Nat.le_refl _, Nat.zero_le _, by omega, rfl, rfl, rfl⟩
  case round =>
    obtain ⟨k, j, h1, h2, h3, rfl, H, rfl⟩ := hrel
    by_cases hj : j < s.size
    · have hnx : ∀ ty, (Instr.next (.pointer (some ⟨w.heap.size, 0, none⟩)) true ty).run Try.prog (w.iter s j) = _ := fun ty => run_next_any w s j ty hj
      rw [dec_wl s j hj] at hnx
      have e1 := step_le s k j H.out hj
      have e2 := wl_pos (s.data.toList.drop j)
      have E : Hid (j + wl (s.data.toList.drop j) = offL (k + 1) s.data.toList) := (step_at s k j H.out hj).symm
      cases hk : ((k : Int) == n) with
      | true =>
        have Hk : Hid ((k : Int) = n) := (by simpa using hk : (k : Int) = n)
        go_wp2
        go_ret2
        refine ⟨⟨s.extract 0 j, true, rfl, .inr ⟨by have := Hk.out; omega, ?_, ?_⟩⟩, grown_iter _ _ _⟩
        · rw [take_data, ← Hk.out, Int.toNat_natCast, ← H.out]
        · rw [← Hk.out, Int.toNat_natCast, ← H.out]; simp [hj]
      | false =>
        have Hk : Hid (¬ (k : Int) = n) := (by simpa using hk : ¬ (k : Int) = n)
        go_wp2
        go_roundw
        case rel => exact ⟨k + 1, j + wl (s.data.toList.drop j), by omega, by omega, by have := Hk.out; omega, by go_num, E.out, rfl⟩
        case measure => simp; omega
    · have hnx : ∀ ty, (Instr.next (.pointer (some ⟨w.heap.size, 0, none⟩)) true ty).run Try.prog (w.iter s j) = _ := fun ty => run_next_end w s j ty hj
      go_wp2
      go_ret2
      refine ⟨⟨s, false, rfl, ?_⟩, grown_iter _ _ _⟩
      by_cases hn : n < 0
      · exact .inl ⟨hn, rfl, rfl⟩
      · have e : offL k s.data.toList = s.data.toList.length := by rw [← H.out, len_eq]; omega
        have e2 := offL_full k n.toNat _ e (by omega)
        refine .inr ⟨by omega, ?_, ?_⟩
        · rw [e2, List.take_length]
        · rw [e2, len_eq]; simp

def bytesB (a : ByteArray) : Bool := decide (a.size ≤ 1048576)
theorem bytes5 (a : ByteArray) (k m : Int) (w : World) (ha : a.size ≤ maxLen) :
    Calls Try.prog 5 #[.string a, .int .i64 k, .int .i64 m] w fun e w' => e = .returned (.bool (bytesB a)) ∧ w = w' := by
  unfold maxLen at ha
  go_enter Try.func5, Try.ntmps5
  go_wp2
  all_goals
    go_ret
    refine ⟨ret_bool ?_, rfl⟩
    unfold bytesB
    symm
    first
      | (rw [decide_eq_true_iff]; omega)
      | (rw [decide_eq_false_iff_not]; omega)
theorem bytes9 (a : ByteArray) (k : Int) (w : World) (ha : a.size ≤ maxLen) :
    Calls Try.prog 9 #[.string a, .int .i64 k] w fun e w' => e = .returned (.bool (bytesB a)) ∧ w = w' := by
  unfold maxLen at ha
  go_enter Try.func9, Try.ntmps9
  go_wp2
  all_goals
    go_ret
    refine ⟨ret_bool ?_, rfl⟩
    unfold bytesB
    symm
    first
      | (rw [decide_eq_true_iff]; omega)
      | (rw [decide_eq_false_iff_not]; omega)
end Go.Proofs.Qxb6627815a
