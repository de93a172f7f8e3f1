import Derived.Test.Qxb6627743aRows
import Derived.Test.Qxb6627743aPlain
import Derived.WalkKit
import Derived.WalkSpells
namespace Go.Proofs.Qxb6627743a
open Go.RowKit

theorem ret_int {k : IntKind} {a b : Int} (h : a = b) : Ending.returned (.int k a) = .returned (.int k b) := by rw [h]
theorem ret_bool {a b : Bool} (h : a = b) : Ending.returned (.bool a) = .returned (.bool b) := by rw [h]
theorem int_eq {k : IntKind} {a b : Int} (h : a = b) : Value.int k a = .int k b := by rw [h]
theorem results_tmp4 {fn : Func} {t u v x : Tmp} (h : fn.results = #[.tmp t, .tmp u, .tmp v, .tmp x]) (tmps : Array Value) (P : Program) (w : World) :
    (results fn tmps).run P w = .ok (.tuple #[tmps.getD t undef, tmps.getD u undef, tmps.getD v undef, tmps.getD x undef]) w := by
  simp [results, h]

theorem dig6 (b : UInt8) (w : World) :
    Calls Try.prog 6 #[.int .u8 (b.toNat : Int)] w fun e w' => e = .returned (.int .u64 (dig b : Int)) ∧ w = w' := by
  have hb := b.toNat_lt
  have hb2 : (b.toNat : Int) < 256 := by omega
  go_enter Try.func6, Try.ntmps6
  go_wp2
  go_ret
  exact ⟨ret_int (by unfold dig; omega), rfl⟩

theorem pow7n (k : Nat) (w : World) (hk : k ≤ 18) :
    Calls Try.prog 7 #[.int .i64 (k : Int)] w fun e w' => e = .returned (.int .u64 (P10 k)) ∧ w = w' := by
  go_enter Try.func7, Try.ntmps7
  go_wp2
  go_loop [3, 4] (fun p i => ∃ j : Nat, j ≤ k ∧ i = .int .i64 j ∧ p = .int .u64 (P10 j)) (fun _ i => k - (intOf i).toNat)
  case atStart => exact ⟨0, Nat.zero_le _, rfl, rfl⟩
  case round =>
    obtain ⟨j, hj, rfl, rfl⟩ := hrel
    by_cases hlt : j < k
    · go_wp2
      go_round
      case rel => exact ⟨j + 1, by omega, by go_num, by rw [← P10_step j (by omega)]⟩
      case measure => simp [intOf]; omega
    · go_wp2
      go_ret
      have e : j = k := by omega
      subst e
      exact ⟨rfl, rfl⟩
theorem pow7 (a : Int) (w : World) (h0 : 0 ≤ a) (h1 : a ≤ 18) :
    Calls Try.prog 7 #[.int .i64 a] w fun e w' => e = .returned (.int .u64 (P10 a.toNat)) ∧ w = w' := by
  obtain ⟨k, rfl⟩ := Int.eq_ofNat_of_zero_le h0
  exact pow7n k w (by omega)

theorem chunk10 (s : ByteArray) (z : Int) (w : World) (hs : s.size ≤ 1048576) (hz0 : -9223372036854775808 ≤ z) (hz1 : z ≤ 9223372036854775807) :
    Calls Try.prog 10 #[.string s, .int .i64 z] w fun e w' => w = w' ∧ ∃ s' : ByteArray, s'.data.toList = s.data.toList.drop (nD s.size) ∧
      e = .returned (.tuple #[.int .u64 (chC s.data.toList z), .int .u64 (chP s.data.toList z), .string s', .int .i64 (z - nT s.size z)]) := by
  go_enter Try.func10, Try.ntmps10
  go_wp2
  go_loop [0, 1, 4, 5, 8] (fun ds zs c p i => ∃ (d t : Nat) (s' : ByteArray), d + t ≤ 18 ∧ d ≤ s.size ∧ (t : Int) ≤ max z 0 ∧ (0 < t → d = s.size) ∧ Hid (s'.data.toList = s.data.toList.drop d) ∧ s'.size + d = s.size ∧
      ds = .string s' ∧ zs = .int .i64 (z - t) ∧ c = .int .u64 (U (val (s.data.toList.take d) * 10 ^ t)) ∧ p = .int .u64 (P10 (d + t)) ∧ i = .int .i64 ((d : Int) + t)) (fun _ _ _ _ i => 18 - (intOf i).toNat)
  case atStart => exact ⟨0, 0, s, by omega, by omega, by omega, by omega, rfl, by omega, rfl, by simp, rfl, rfl, rfl⟩
  case round =>
    obtain ⟨d, t, s', h1, h2, h3, h4, H, hsz, rfl, rfl, rfl, rfl, rfl⟩ := hrel
    by_cases h18 : d + t < 18
    · by_cases hd : 0 < s'.size
      · have he : s'.toList.isEmpty = false := isEmpty_no s' hd
        go_wp2
        go_round
        case rel => exact ⟨d + 1, t, s'.extract 1 s'.size, by omega, by omega, h3, by omega, tail_of s s' d H.out, by rw [ByteArray.size_extract]; omega, rfl, rfl, int_eq (chD s s' d t hd (by omega) H.out (by omega)), int_eq (by rw [P10_step _ h18, Nat.add_right_comm]), int_eq (by omega)⟩
        case measure => simp [intOf]; omega
      · have he : s'.toList.isEmpty = true := isEmpty_yes s' (by omega)
        by_cases hz : (t : Int) < z
        · have hz' : 0 < z - (t : Int) := by omega
          go_wp2
          go_round
          case rel => exact ⟨d, t + 1, s', by omega, by omega, by omega, by omega, H.out, hsz, rfl, int_eq (by omega), int_eq (chT _ t), int_eq (by rw [P10_step _ h18, Nat.add_assoc]), int_eq (by omega)⟩
          case measure => simp [intOf]; omega
        · have hz' : z - (t : Int) ≤ 0 := by omega
          obtain ⟨E1, E2⟩ := cut_is s.size d t z (by omega) h2 h3 h4 (.inr ⟨by omega, by omega⟩)
          have F1 : Hid (d = nD s.size) := E1
          have F2 : Hid (t = nT s.size z) := E2
          clear E1 E2
          go_wp2
          ((try simp only [Exit.inBlock, Exit.then]); refine bodyPost_ret (results_tmp4 rfl _ _ _) rfl ?_)
          refine ⟨rfl, s', by rw [← F1.out]; exact H.out, ?_⟩
          unfold chC chP
          rw [len_size, ← F1.out, ← F2.out]
          rfl
    · obtain ⟨E1, E2⟩ := cut_is s.size d t z h1 h2 h3 h4 (.inl (by omega))
      have F1 : Hid (d = nD s.size) := E1
      have F2 : Hid (t = nT s.size z) := E2
      clear E1 E2
      go_wp2
      ((try simp only [Exit.inBlock, Exit.then]); refine bodyPost_ret (results_tmp4 rfl _ _ _) rfl ?_)
      refine ⟨rfl, s', by rw [← F1.out]; exact H.out, ?_⟩
      unfold chC chP
      rw [len_size, ← F1.out, ← F2.out]
      rfl

theorem chunk8 (s : ByteArray) (z : Int) (w : World) (hs : s.size ≤ 1048576) (hz0 : -9223372036854775808 ≤ z) (hz1 : z ≤ 9223372036854775807) :
    Calls Try.prog 8 #[.string s, .int .i64 z] w fun e w' => w = w' ∧ ∃ s' : ByteArray, s'.data.toList = s.data.toList.drop (nD s.size) ∧
      e = .returned (.tuple #[.int .u64 (chC s.data.toList z), .int .u64 (chP s.data.toList z), .string s', .int .i64 (z - nT s.size z)]) := by
  go_enter Try.func8, Try.ntmps8
  go_wp2_with (go_at_call 10; refine (chunk10 _ _ _ hs hz0 hz1).mono ?_; rintro e w' ⟨rfl, s', H, rfl⟩; have HH : Hid (s'.data.toList = s.data.toList.drop (nD s.size)) := H; clear H)
  ((try simp only [Exit.inBlock, Exit.then]); refine bodyPost_ret (results_tmp4 rfl _ _ _) rfl ?_)
  exact ⟨rfl, _, HH.out, rfl⟩

theorem chunk (s : ByteArray) (z : Int) (w : World) (hs : s.size ≤ 1048576) (hz0 : -9223372036854775808 ≤ z) (hz1 : z ≤ 9223372036854775807) :
    Calls Try.prog 8 #[.string s, .int .i64 z] w fun e w' => w = w' ∧ ∃ (c p : Int) (s' : ByteArray) (z2 : Int), c = chC s.data.toList z ∧ p = chP s.data.toList z ∧ s'.data.toList = s.data.toList.drop (nD s.size) ∧ z2 = z - nT s.size z ∧
      e = .returned (.tuple #[.int .u64 c, .int .u64 p, .string s', .int .i64 z2]) := by
  refine (chunk8 s z w hs hz0 hz1).mono ?_
  rintro e w' ⟨rfl, s', h, rfl⟩
  exact ⟨rfl, _, _, s', _, rfl, rfl, h, rfl, rfl⟩

def bytesB (a : ByteArray) : Bool := decide (a.size ≤ 1048576)
theorem bytes5 (a : ByteArray) (k : Int) (w : World) (ha : a.size ≤ maxLen) :
    Calls Try.prog 5 #[.string a, .int .i64 k] w fun e w' => e = .returned (.bool (bytesB a)) ∧ w = w' := by
  unfold maxLen at ha
  go_enter Try.func5, Try.ntmps5
  go_wp2
  all_goals
    go_ret
    refine ⟨ret_bool ?_, rfl⟩
    unfold bytesB
    symm
    first
      | (rw [decide_eq_true_iff]; omega)
      | (rw [decide_eq_false_iff_not]; omega)
theorem bytes9 (a : ByteArray) (k : Int) (w : World) (ha : a.size ≤ maxLen) :
    Calls Try.prog 9 #[.string a, .int .i64 k] w fun e w' => e = .returned (.bool (bytesB a)) ∧ w = w' := by
  unfold maxLen at ha
  go_enter Try.func9, Try.ntmps9
  go_wp2
  all_goals
    go_ret
    refine ⟨ret_bool ?_, rfl⟩
    unfold bytesB
    symm
    first
      | (rw [decide_eq_true_iff]; omega)
      | (rw [decide_eq_false_iff_not]; omega)
end Go.Proofs.Qxb6627743a
