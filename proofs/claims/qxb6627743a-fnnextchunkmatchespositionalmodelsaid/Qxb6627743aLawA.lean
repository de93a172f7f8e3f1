import Derived.Test.Qxb6627743aWalks
namespace Go.Proofs.Qxb6627743a
open Go.RowKit

theorem lawA_long (s : ByteArray) (z : Int) (w : World) (hs : s.size ≤ 1048576) (hz0 : -9223372036854775808 ≤ z) (hz1 : z ≤ 9223372036854775807) (hl : 18 < s.size) :
    Calls Try.prog 3 #[.string s, .int .i64 z] w fun e w' => e = .returned (.bool true) ∧ w = w' := by
  have hB : bytesB s = true := by unfold bytesB; simpa using hs
  have t1 : decide ((1048576 : Int) < (s.size : Int)) = false := by simp; omega
  have t0 : decide ((18 : Int) < (s.size : Int)) = true := by simp; omega
  rcases (show (0 < z ∧ decide (z < 0) = false ∧ decide (0 < z) = true) ∨ (z ≤ 0 ∧ decide (z < 0) = decide (z < 0) ∧ decide (0 < z) = false) from by by_cases hz : 0 < z <;> simp <;> omega) with ⟨hz, t2, t3⟩ | ⟨hz, t2, t3⟩
  all_goals
    go_enter Try.func3, Try.ntmps3
    go_wp2_with (go_at_call 5; refine (bytes5 _ _ _ (by unfold maxLen; omega)).mono ?_; rintro e w' ⟨rfl, rfl⟩)
    go_loop [8, 9] (fun v i => ∃ k : Nat, k ≤ 18 ∧ i = .int .i64 k ∧ v = .int .u64 (U (val (s.data.toList.take k) * 10 ^ (18 - k)))) (fun _ i => 18 - (intOf i).toNat)
    case atStart => exact ⟨0, by omega, rfl, int_eq (by rw [List.take_zero, val_nil, Nat.zero_mul, U_zero])⟩
    case round =>
      obtain ⟨k, hk, rfl, rfl⟩ := hrel
      by_cases hlt : k < 18
      · go_wp2_with (first | (go_at_call 6; refine (dig6 _ _).mono ?_; rintro e w1 ⟨rfl, rfl⟩) | (go_at_call 7; refine (pow7 _ _ (by omega) (by omega)).mono ?_; rintro e w1 ⟨rfl, rfl⟩))
        go_round
        case rel => exact ⟨k + 1, by omega, by go_num, int_eq (sum_step s k _ 18 (by omega) (by omega))⟩
        case measure => simp [intOf]; omega
      · go_wp2_with (go_at_call 7; refine (pow7 _ _ (by omega) (by omega)).mono ?_; rintro e w1 ⟨rfl, rfl⟩)
        refine (chunk _ _ _ hs hz0 hz1).mono ?_
        rintro e w1 ⟨rfl, c, p, s', z2, hc, hp, hs', hz2, rfl⟩
        have hD : 18 = nD s.size := by unfold nD; omega
        have hT : 0 = nT s.size z := by unfold nT nD; omega
        have f1 := beq_of (hc.trans (want_c s z k 0 18 (by omega) hD hT))
        have f2 := beq_of (hp.trans (want_p s z 18 (by omega)))
        have f3 := beq_of (want_s s s' 18 hs' hD)
        have f4 : (z2 == z) = true := beq_of (by omega)
        clear hc hp hs' hz2 hD hT
        go_wp2
        go_ret
        exact ⟨rfl, rfl⟩

theorem lawA_short1 (s : ByteArray) (z : Int) (w : World) (hl : s.size ≤ 18) (hz0 : -9223372036854775808 ≤ z) (hz1 : z ≤ 9223372036854775807) (c1 : s.size < 18) (c2 : z ≤ 0) :
    Calls Try.prog 3 #[.string s, .int .i64 z] w fun e w' => e = .returned (.bool true) ∧ w = w' := by
  have hB : bytesB s = true := by unfold bytesB; simp; omega
  have t1 : decide ((1048576 : Int) < (s.size : Int)) = false := by simp; omega
  have t0 : decide ((18 : Int) < (s.size : Int)) = false := by simp; omega
  have c3 : decide (0 < z) = false := by simp; omega
  have c4 : decide ((0 : Int) < 18 - (s.size : Int)) = true := by simp; omega
  have c5 : decide ((s.size : Int) < 18) = true := by simp; omega
  go_enter Try.func3, Try.ntmps3
  go_wp2_with (go_at_call 5; refine (bytes5 _ _ _ (by unfold maxLen; omega)).mono ?_; rintro e w' ⟨rfl, rfl⟩)
  go_loop [8, 9] (fun v i => ∃ k : Nat, k ≤ s.size ∧ i = .int .i64 k ∧ v = .int .u64 (U (val (s.data.toList.take k) * 10 ^ (s.size - k)))) (fun _ i => s.size - (intOf i).toNat)
  case atStart => exact ⟨0, by omega, rfl, int_eq (by rw [List.take_zero, val_nil, Nat.zero_mul, U_zero])⟩
  case round =>
    obtain ⟨k, hk, rfl, rfl⟩ := hrel
    by_cases hlt : k < s.size
    · go_wp2_with (first | (go_at_call 6; refine (dig6 _ _).mono ?_; rintro e w1 ⟨rfl, rfl⟩) | (go_at_call 7; refine (pow7 _ _ (by omega) (by omega)).mono ?_; rintro e w1 ⟨rfl, rfl⟩))
      go_round
      case rel => exact ⟨k + 1, by omega, by go_num, int_eq (sum_step s k _ s.size (by omega) (by omega))⟩
      case measure => simp [intOf]; omega
    · go_wp2_with (go_at_call 7; refine (pow7 _ _ (by omega) (by omega)).mono ?_; rintro e w1 ⟨rfl, rfl⟩)
      refine (chunk _ _ _ (by omega) hz0 hz1).mono ?_
      rintro e w1 ⟨rfl, c, p, s', z2, hc, hp, hs', hz2, rfl⟩
      have hD : s.size = nD s.size := by unfold nD; omega
      have hT : 0 = nT s.size z := by unfold nT nD; omega
      have f1 := beq_of (hc.trans (want_c s z k 0 s.size (by omega) hD hT))
      have f2 := beq_of (hp.trans (want_p s z (s.size) (by omega)))
      have f3 : s'.toList.isEmpty = true := isEmpty_yes s' (by rw [← len_size, hs', ← hD, List.length_drop, len_size]; omega)
      have f4 : (z2 == z) = true := beq_of (by omega)
      clear hc hp hs' hz2 hD hT
      go_wp2
      go_ret
      exact ⟨rfl, rfl⟩
theorem lawA_short2 (s : ByteArray) (z : Int) (w : World) (hl : s.size ≤ 18) (hz0 : -9223372036854775808 ≤ z) (hz1 : z ≤ 9223372036854775807) (c1 : 18 ≤ s.size) (c2 : z ≤ 0) :
    Calls Try.prog 3 #[.string s, .int .i64 z] w fun e w' => e = .returned (.bool true) ∧ w = w' := by
  have hB : bytesB s = true := by unfold bytesB; simp; omega
  have t1 : decide ((1048576 : Int) < (s.size : Int)) = false := by simp; omega
  have t0 : decide ((18 : Int) < (s.size : Int)) = false := by simp; omega
  have c3 : decide (0 < z) = false := by simp; omega
  have c4 : decide ((0 : Int) < 18 - (s.size : Int)) = false := by simp; omega
  go_enter Try.func3, Try.ntmps3
  go_wp2_with (go_at_call 5; refine (bytes5 _ _ _ (by unfold maxLen; omega)).mono ?_; rintro e w' ⟨rfl, rfl⟩)
  go_loop [8, 9] (fun v i => ∃ k : Nat, k ≤ s.size ∧ i = .int .i64 k ∧ v = .int .u64 (U (val (s.data.toList.take k) * 10 ^ (s.size - k)))) (fun _ i => s.size - (intOf i).toNat)
  case atStart => exact ⟨0, by omega, rfl, int_eq (by rw [List.take_zero, val_nil, Nat.zero_mul, U_zero])⟩
  case round =>
    obtain ⟨k, hk, rfl, rfl⟩ := hrel
    by_cases hlt : k < s.size
    · go_wp2_with (first | (go_at_call 6; refine (dig6 _ _).mono ?_; rintro e w1 ⟨rfl, rfl⟩) | (go_at_call 7; refine (pow7 _ _ (by omega) (by omega)).mono ?_; rintro e w1 ⟨rfl, rfl⟩))
      go_round
      case rel => exact ⟨k + 1, by omega, by go_num, int_eq (sum_step s k _ s.size (by omega) (by omega))⟩
      case measure => simp [intOf]; omega
    · go_wp2_with (go_at_call 7; refine (pow7 _ _ (by omega) (by omega)).mono ?_; rintro e w1 ⟨rfl, rfl⟩)
      refine (chunk _ _ _ (by omega) hz0 hz1).mono ?_
      rintro e w1 ⟨rfl, c, p, s', z2, hc, hp, hs', hz2, rfl⟩
      have hD : s.size = nD s.size := by unfold nD; omega
      have hT : 0 = nT s.size z := by unfold nT nD; omega
      have f1 := beq_of (hc.trans (want_c s z k 0 s.size (by omega) hD hT))
      have f2 := beq_of (hp.trans (want_p s z (((s.size : Int) + (18 - (s.size : Int))).toNat) (by omega)))
      have f3 : s'.toList.isEmpty = true := isEmpty_yes s' (by rw [← len_size, hs', ← hD, List.length_drop, len_size]; omega)
      have f4 : (z2 == z - (18 - (s.size : Int))) = true := beq_of (by omega)
      clear hc hp hs' hz2 hD hT
      go_wp2
      go_ret
      exact ⟨rfl, rfl⟩
theorem lawA_short3 (s : ByteArray) (z : Int) (w : World) (hl : s.size ≤ 18) (hz0 : -9223372036854775808 ≤ z) (hz1 : z ≤ 9223372036854775807) (c1 : z < 18 - (s.size : Int)) (c2 : 0 < z) :
    Calls Try.prog 3 #[.string s, .int .i64 z] w fun e w' => e = .returned (.bool true) ∧ w = w' := by
  have hB : bytesB s = true := by unfold bytesB; simp; omega
  have t1 : decide ((1048576 : Int) < (s.size : Int)) = false := by simp; omega
  have t0 : decide ((18 : Int) < (s.size : Int)) = false := by simp; omega
  have c3 : decide (0 < z) = true := by simp; omega
  have c4 : decide (z < 18 - (s.size : Int)) = true := by simp; omega
  go_enter Try.func3, Try.ntmps3
  go_wp2_with (go_at_call 5; refine (bytes5 _ _ _ (by unfold maxLen; omega)).mono ?_; rintro e w' ⟨rfl, rfl⟩)
  go_loop [8, 9] (fun v i => ∃ k : Nat, k ≤ s.size ∧ i = .int .i64 k ∧ v = .int .u64 (U (val (s.data.toList.take k) * 10 ^ (s.size - k)))) (fun _ i => s.size - (intOf i).toNat)
  case atStart => exact ⟨0, by omega, rfl, int_eq (by rw [List.take_zero, val_nil, Nat.zero_mul, U_zero])⟩
  case round =>
    obtain ⟨k, hk, rfl, rfl⟩ := hrel
    by_cases hlt : k < s.size
    · go_wp2_with (first | (go_at_call 6; refine (dig6 _ _).mono ?_; rintro e w1 ⟨rfl, rfl⟩) | (go_at_call 7; refine (pow7 _ _ (by omega) (by omega)).mono ?_; rintro e w1 ⟨rfl, rfl⟩))
      go_round
      case rel => exact ⟨k + 1, by omega, by go_num, int_eq (sum_step s k _ s.size (by omega) (by omega))⟩
      case measure => simp [intOf]; omega
    · go_wp2_with (go_at_call 7; refine (pow7 _ _ (by omega) (by omega)).mono ?_; rintro e w1 ⟨rfl, rfl⟩)
      refine (chunk _ _ _ (by omega) hz0 hz1).mono ?_
      rintro e w1 ⟨rfl, c, p, s', z2, hc, hp, hs', hz2, rfl⟩
      have hD : s.size = nD s.size := by unfold nD; omega
      have hT : z.toNat = nT s.size z := by unfold nT nD; omega
      have f1 := beq_of (hc.trans (want_c s z k z.toNat s.size (by omega) hD hT))
      have f2 := beq_of (hp.trans (want_p s z (((s.size : Int) + z).toNat) (by omega)))
      have f3 : s'.toList.isEmpty = true := isEmpty_yes s' (by rw [← len_size, hs', ← hD, List.length_drop, len_size]; omega)
      have f4 : (z2 == 0) = true := beq_of (by omega)
      clear hc hp hs' hz2 hD hT
      go_wp2
      go_ret
      exact ⟨rfl, rfl⟩
theorem lawA_short4 (s : ByteArray) (z : Int) (w : World) (hl : s.size ≤ 18) (hz0 : -9223372036854775808 ≤ z) (hz1 : z ≤ 9223372036854775807) (c1 : 18 - (s.size : Int) ≤ z) (c2 : 0 < z) :
    Calls Try.prog 3 #[.string s, .int .i64 z] w fun e w' => e = .returned (.bool true) ∧ w = w' := by
  have hB : bytesB s = true := by unfold bytesB; simp; omega
  have t1 : decide ((1048576 : Int) < (s.size : Int)) = false := by simp; omega
  have t0 : decide ((18 : Int) < (s.size : Int)) = false := by simp; omega
  have c3 : decide (0 < z) = true := by simp; omega
  have c4 : decide (z < 18 - (s.size : Int)) = false := by simp; omega
  go_enter Try.func3, Try.ntmps3
  go_wp2_with (go_at_call 5; refine (bytes5 _ _ _ (by unfold maxLen; omega)).mono ?_; rintro e w' ⟨rfl, rfl⟩)
  go_loop [8, 9] (fun v i => ∃ k : Nat, k ≤ s.size ∧ i = .int .i64 k ∧ v = .int .u64 (U (val (s.data.toList.take k) * 10 ^ (s.size - k)))) (fun _ i => s.size - (intOf i).toNat)
  case atStart => exact ⟨0, by omega, rfl, int_eq (by rw [List.take_zero, val_nil, Nat.zero_mul, U_zero])⟩
  case round =>
    obtain ⟨k, hk, rfl, rfl⟩ := hrel
    by_cases hlt : k < s.size
    · go_wp2_with (first | (go_at_call 6; refine (dig6 _ _).mono ?_; rintro e w1 ⟨rfl, rfl⟩) | (go_at_call 7; refine (pow7 _ _ (by omega) (by omega)).mono ?_; rintro e w1 ⟨rfl, rfl⟩))
      go_round
      case rel => exact ⟨k + 1, by omega, by go_num, int_eq (sum_step s k _ s.size (by omega) (by omega))⟩
      case measure => simp [intOf]; omega
    · go_wp2_with (go_at_call 7; refine (pow7 _ _ (by omega) (by omega)).mono ?_; rintro e w1 ⟨rfl, rfl⟩)
      refine (chunk _ _ _ (by omega) hz0 hz1).mono ?_
      rintro e w1 ⟨rfl, c, p, s', z2, hc, hp, hs', hz2, rfl⟩
      have hD : s.size = nD s.size := by unfold nD; omega
      have hT : (18 - s.size) = nT s.size z := by unfold nT nD; omega
      have f1 := beq_of (hc.trans (want_c s z k (18 - s.size) s.size (by omega) hD hT))
      have f2 := beq_of (hp.trans (want_p s z (((s.size : Int) + (18 - (s.size : Int))).toNat) (by omega)))
      have f3 : s'.toList.isEmpty = true := isEmpty_yes s' (by rw [← len_size, hs', ← hD, List.length_drop, len_size]; omega)
      have f4 : (z2 == z - (18 - (s.size : Int))) = true := beq_of (by omega)
      clear hc hp hs' hz2 hD hT
      go_wp2
      go_ret
      exact ⟨rfl, rfl⟩

theorem lawA (s : ByteArray) (z : Int) (w : World) (hs : s.size ≤ maxLen) (hz0 : -9223372036854775808 ≤ z) (hz1 : z ≤ 9223372036854775807) :
    Calls Try.prog 3 #[.string s, .int .i64 z] w fun e w' => e = .returned (.bool true) ∧ w = w' := by
  by_cases h : s.size ≤ 1048576
  · by_cases hl : s.size ≤ 18
    · by_cases h2 : 0 < z
      · by_cases h1 : z < 18 - (s.size : Int)
        · exact lawA_short3 s z w hl hz0 hz1 h1 h2
        · exact lawA_short4 s z w hl hz0 hz1 (by omega) h2
      · by_cases h1 : s.size < 18
        · exact lawA_short1 s z w hl hz0 hz1 h1 (by omega)
        · exact lawA_short2 s z w hl hz0 hz1 (by omega) (by omega)
    · exact lawA_long s z w h hz0 hz1 (by omega)
  · have hB : bytesB s = false := by unfold bytesB; simpa using h
    go_enter Try.func3, Try.ntmps3
    go_wp2_with (go_at_call 5; refine (bytes5 _ _ _ hs).mono ?_; rintro e w' ⟨rfl, rfl⟩)
    go_ret
    exact ⟨rfl, rfl⟩
end Go.Proofs.Qxb6627743a
