import Derived.Test.Qxb6627743aWalks
import Derived.Test.Qxb6627743aPlainB
namespace Go.Proofs.Qxb6627743a
open Go.RowKit

def strLen : Value → Nat
  | .string s => s.size
  | _ => 0
theorem strLen_s (s : ByteArray) : strLen (.string s) = s.size := rfl

set_option maxRecDepth 100000 in
set_option maxHeartbeats 1000000 in
theorem lawB_pos (s : ByteArray) (z : Int) (w : World) (hs : s.size ≤ 1048576) (hz0 : -9223372036854775808 ≤ z) (hz1 : z ≤ 65536) (c1 : 0 < z) :
    Calls Try.prog 4 #[.string s, .int .i64 z] w fun e w' => e = .returned (.bool true) ∧ w = w' := by
  have hB : bytesB s = true := by unfold bytesB; simpa using hs
  have t1 : decide ((1048576 : Int) < (s.size : Int)) = false := by simp; omega
  have t2 : decide ((65536 : Int) < z) = false := by simp; omega
  have t3 : decide (0 < z) = true := by simp; omega
  go_enter Try.func4, Try.ntmps4
  go_wp2_with (go_at_call 9; refine (bytes9 _ _ _ (by unfold maxLen; omega)).mono ?_; rintro e w' ⟨rfl, rfl⟩)
  go_loop [5, 6] (fun v i => ∃ k : Nat, k ≤ s.size ∧ i = .int .i64 k ∧ v = .int .u64 (U (val (s.data.toList.take k)))) (fun _ i => s.size - (intOf i).toNat)
  case atStart => exact ⟨0, by omega, rfl, int_eq (by rw [List.take_zero, val_nil, U_zero])⟩
  case round =>
    obtain ⟨k, hk, rfl, rfl⟩ := hrel
    by_cases hlt : k < s.size
    · go_wp2_with (go_at_call 6; refine (dig6 _ _).mono ?_; rintro e w1 ⟨rfl, rfl⟩)
      go_round
      case rel => exact ⟨k + 1, by omega, by go_num, int_eq (want_step s k hlt)⟩
      case measure => simp [intOf]; omega
    · have x1 : decide ((k : Int) < (s.size : Int)) = false := by simp; omega
      have hkk : k = s.size := by omega
      have E : Hid (s.data.toList.take k = s.data.toList) := by show _ = _; rw [hkk, ← len_size, List.take_length]
      clear hkk
      go_wp2
      go_loop [5, 8] (fun v i => ∃ m : Nat, m ≤ z.toNat ∧ i = .int .i64 m ∧ v = .int .u64 (U (val s.data.toList * 10 ^ m))) (fun _ i => z.toNat - (intOf i).toNat)
      case atStart => exact ⟨0, by omega, rfl, int_eq (by rw [E.out, Nat.pow_zero, Nat.mul_one])⟩
      case round =>
        obtain ⟨m, hm, rfl, rfl⟩ := hrel
        by_cases hmt : m < z.toNat
        · go_wp2
          go_round
          case rel => exact ⟨m + 1, by omega, by go_num, int_eq (chT _ m)⟩
          case measure => simp [intOf]; omega
        · have x2 : decide ((m : Int) < z) = false := by rw [decide_eq_false_iff_not]; omega
          have X : Hid (m = z.toNat) := by show _ = _; omega
          go_wp2
          go_loop [10, 11, 12] (fun acc rds rzs => ∃ (d t : Nat) (rd : ByteArray), d ≤ s.size ∧ t ≤ z.toNat ∧ (0 < t → d = s.size) ∧ Hid (rd.data.toList = s.data.toList.drop d) ∧ rd.size + d = s.size ∧
              acc = .int .u64 (U (val (s.data.toList.take d) * 10 ^ t)) ∧ rds = .string rd ∧ rzs = .int .i64 (z - t)) (fun _ rds rzs => strLen rds + (intOf rzs).toNat)
          case atStart => exact ⟨0, 0, s, by omega, by omega, by omega, rfl, by omega, int_eq (by rw [List.take_zero, val_nil, Nat.zero_mul, U_zero]), rfl, by simp⟩
          case round =>
            obtain ⟨d, t, rd, h1, h2, h3, H, hsz, rfl, rfl, rfl⟩ := hrel
            by_cases hr : 0 < z - (t : Int)
            · have hrb : decide (0 < z - (t : Int)) = true := by simpa using hr
              by_cases h18 : 18 < (rd.size : Int) + (z - (t : Int))
              · by_cases h9 : 18 ≤ rd.size
                · have hD : nD rd.size = 18 := by unfold nD; omega
                  have hT : nT rd.size (z - (t : Int)) = 0 := by unfold nT nD; omega
                  go_wp2_with fail
                  refine (chunk _ _ _ (by omega) (by omega) (by omega)).mono ?_
                  rintro e w1 ⟨rfl, c, p, rd2, z2, hc, hp, hs2, hz2, rfl⟩
                  have A : Hid (IntKind.u64.wrap (IntKind.u64.wrap (U (val (s.data.toList.take d) * 10 ^ t) * p) + c) = U (val (s.data.toList.take (d + nD rd.size)) * 10 ^ (t + nT rd.size (z - (t : Int))))) := acc_step s rd d t (z - (t : Int)) c p H.out hsz h3 hc hp
                  have T5 := tail_is rd rd2 _ hs2
                  have T6 := size_of rd rd2 hs2
                  have H2 : Hid (rd2.data.toList = s.data.toList.drop (d + nD rd.size)) := drop_more s rd rd2 d _ H.out hs2
                  have g3 : (p != P10 18) = false := by rw [hp, want_p rd (z - (t : Int)) 18 (by omega)]; exact bne_self_eq_false _
                  have R : Hid (d + nD rd.size ≤ s.size ∧ rd2.size + (d + nD rd.size) = s.size ∧ t + nT rd.size (z - (t : Int)) ≤ z.toNat ∧ (0 < t + nT rd.size (z - (t : Int)) → d + nD rd.size = s.size) ∧ z2 = z - ((t + nT rd.size (z - (t : Int)) : Nat) : Int)) := by refine ⟨?_, ?_, ?_, ?_, ?_⟩ <;> omega
                  have q1 : rd2.size + nD rd.size ≤ rd.size := by omega
                  have q2 : rd.size ≤ rd2.size + nD rd.size := by omega
                  have q3 : z2 + nT rd.size (z - (t : Int)) ≤ (z - (t : Int)) := by omega
                  have q4 : (z - (t : Int)) ≤ z2 + nT rd.size (z - (t : Int)) := by omega
                  have q5 : nD rd.size ≤ 18 := by omega
                  have q6 : 18 ≤ nD rd.size := by omega
                  have q7 : (nT rd.size (z - (t : Int)) : Int) ≤ ((0 : Nat) : Int) := by omega
                  have q8 : ((0 : Nat) : Int) ≤ nT rd.size (z - (t : Int)) := by omega
                  clear hc hp hs2 hz2 T6 hD hT
                  generalize nD rd.size = D at *
                  generalize nT rd.size (z - (t : Int)) = T at *
                  go_wp2_with (go_at_call 7; refine (pow7 _ _ (by omega) (by omega)).mono ?_; rintro e w1 ⟨rfl, rfl⟩)
                  all_goals
                    go_round
                    case rel => exact ⟨_, _, rd2, R.out.1, R.out.2.2.1, R.out.2.2.2.1, H2.out, R.out.2.1, int_eq A.out, rfl, int_eq R.out.2.2.2.2⟩
                    case measure => simp [strLen_s, intOf]; omega
                · have hD : nD rd.size = rd.size := by unfold nD; omega
                  have hT : nT rd.size (z - (t : Int)) = 18 - rd.size := by unfold nT nD; omega
                  go_wp2_with fail
                  refine (chunk _ _ _ (by omega) (by omega) (by omega)).mono ?_
                  rintro e w1 ⟨rfl, c, p, rd2, z2, hc, hp, hs2, hz2, rfl⟩
                  have A : Hid (IntKind.u64.wrap (IntKind.u64.wrap (U (val (s.data.toList.take d) * 10 ^ t) * p) + c) = U (val (s.data.toList.take (d + nD rd.size)) * 10 ^ (t + nT rd.size (z - (t : Int))))) := acc_step s rd d t (z - (t : Int)) c p H.out hsz h3 hc hp
                  have T5 := tail_is rd rd2 _ hs2
                  have T6 := size_of rd rd2 hs2
                  have H2 : Hid (rd2.data.toList = s.data.toList.drop (d + nD rd.size)) := drop_more s rd rd2 d _ H.out hs2
                  have g3 : (p != P10 18) = false := by rw [hp, want_p rd (z - (t : Int)) 18 (by omega)]; exact bne_self_eq_false _
                  have R : Hid (d + nD rd.size ≤ s.size ∧ rd2.size + (d + nD rd.size) = s.size ∧ t + nT rd.size (z - (t : Int)) ≤ z.toNat ∧ (0 < t + nT rd.size (z - (t : Int)) → d + nD rd.size = s.size) ∧ z2 = z - ((t + nT rd.size (z - (t : Int)) : Nat) : Int)) := by refine ⟨?_, ?_, ?_, ?_, ?_⟩ <;> omega
                  have q1 : rd2.size + nD rd.size ≤ rd.size := by omega
                  have q2 : rd.size ≤ rd2.size + nD rd.size := by omega
                  have q3 : z2 + nT rd.size (z - (t : Int)) ≤ (z - (t : Int)) := by omega
                  have q4 : (z - (t : Int)) ≤ z2 + nT rd.size (z - (t : Int)) := by omega
                  have q5 : nD rd.size ≤ rd.size := by omega
                  have q6 : rd.size ≤ nD rd.size := by omega
                  have q7 : (nT rd.size (z - (t : Int)) : Int) ≤ ((18 - rd.size : Nat) : Int) := by omega
                  have q8 : ((18 - rd.size : Nat) : Int) ≤ nT rd.size (z - (t : Int)) := by omega
                  clear hc hp hs2 hz2 T6 hD hT
                  generalize nD rd.size = D at *
                  generalize nT rd.size (z - (t : Int)) = T at *
                  go_wp2_with (go_at_call 7; refine (pow7 _ _ (by omega) (by omega)).mono ?_; rintro e w1 ⟨rfl, rfl⟩)
                  all_goals
                    go_round
                    case rel => exact ⟨_, _, rd2, R.out.1, R.out.2.2.1, R.out.2.2.2.1, H2.out, R.out.2.1, int_eq A.out, rfl, int_eq R.out.2.2.2.2⟩
                    case measure => simp [strLen_s, intOf]; omega
              · have hD : nD rd.size = rd.size := by unfold nD; omega
                have hT : nT rd.size (z - (t : Int)) = (z - t).toNat := by unfold nT nD; omega
                go_wp2_with fail
                refine (chunk _ _ _ (by omega) (by omega) (by omega)).mono ?_
                rintro e w1 ⟨rfl, c, p, rd2, z2, hc, hp, hs2, hz2, rfl⟩
                have A : Hid (IntKind.u64.wrap (IntKind.u64.wrap (U (val (s.data.toList.take d) * 10 ^ t) * p) + c) = U (val (s.data.toList.take (d + nD rd.size)) * 10 ^ (t + nT rd.size (z - (t : Int))))) := acc_step s rd d t (z - (t : Int)) c p H.out hsz h3 hc hp
                have T5 := tail_is rd rd2 _ hs2
                have T6 := size_of rd rd2 hs2
                have H2 : Hid (rd2.data.toList = s.data.toList.drop (d + nD rd.size)) := drop_more s rd rd2 d _ H.out hs2
                have g3 : (p != P10 ((rd.size : Int) + (z - (t : Int))).toNat) = false := by rw [hp, want_p rd (z - (t : Int)) ((rd.size : Int) + (z - (t : Int))).toNat (by omega)]; exact bne_self_eq_false _
                have R : Hid (d + nD rd.size ≤ s.size ∧ rd2.size + (d + nD rd.size) = s.size ∧ t + nT rd.size (z - (t : Int)) ≤ z.toNat ∧ (0 < t + nT rd.size (z - (t : Int)) → d + nD rd.size = s.size) ∧ z2 = z - ((t + nT rd.size (z - (t : Int)) : Nat) : Int)) := by refine ⟨?_, ?_, ?_, ?_, ?_⟩ <;> omega
                have q1 : rd2.size + nD rd.size ≤ rd.size := by omega
                have q2 : rd.size ≤ rd2.size + nD rd.size := by omega
                have q3 : z2 + nT rd.size (z - (t : Int)) ≤ (z - (t : Int)) := by omega
                have q4 : (z - (t : Int)) ≤ z2 + nT rd.size (z - (t : Int)) := by omega
                have q5 : nD rd.size ≤ rd.size := by omega
                have q6 : rd.size ≤ nD rd.size := by omega
                have q7 : (nT rd.size (z - (t : Int)) : Int) ≤ (((z - t).toNat : Nat) : Int) := by omega
                have q8 : (((z - t).toNat : Nat) : Int) ≤ nT rd.size (z - (t : Int)) := by omega
                have hE : rd2 = ByteArray.empty := by apply ByteArray.ext; apply Array.eq_empty_of_size_eq_zero; show rd2.size = 0; omega
                clear hc hp hs2 hz2 T6 hD hT
                subst hE
                generalize nD rd.size = D at *
                generalize nT rd.size (z - (t : Int)) = T at *
                go_wp2_with (go_at_call 7; refine (pow7 _ _ (by omega) (by omega)).mono ?_; rintro e w1 ⟨rfl, rfl⟩)
                all_goals
                  go_round
                  case rel => exact ⟨_, _, ByteArray.empty, R.out.1, R.out.2.2.1, R.out.2.2.2.1, H2.out, R.out.2.1, int_eq A.out, rfl, int_eq R.out.2.2.2.2⟩
                  case measure => simp [strLen_s, intOf]; omega
            · have hr' : z - (t : Int) ≤ 0 := by omega
              have hr0 : rd.size = 0 := by omega
              have HR : Hid (rd.size = 0) := by show _ = _; omega
              have hr1 : rd.size ≤ d - d := by omega
              clear hr0
              go_wp2_with fail
              refine (chunk _ _ _ (by omega) (by omega) (by omega)).mono ?_
              rintro e w1 ⟨rfl, c, p, rd2, z2, hc, hp, hs2, hz2, rfl⟩
              obtain ⟨e1, e2, e3, e4⟩ := end_c rd (z - (t : Int)) HR.out hr'
              have T6 := size_of rd rd2 hs2
              have f1 : (U (val (s.data.toList.take d) * 10 ^ t) == U (val s.data.toList * 10 ^ m)) = true := beq_of (acc_end s d t m (by omega) (by have := X.out; omega))
              have f2 : (c == 0) = true := beq_of (hc.trans e1)
              have f3 : (p == 1) = true := beq_of (hp.trans e2)
              have f4 : rd2.toList.isEmpty = true := isEmpty_yes rd2 (by omega)
              have f5 : (z2 == (z - (t : Int))) = true := beq_of (by omega)
              have f6 : ((z - (t : Int)) == 0) = true := beq_of (by omega)
              clear hc hp hs2 hz2 e1 e2 e3 e4 T6
              go_wp2
              go_ret
              exact ⟨rfl, rfl⟩
set_option maxRecDepth 100000 in
set_option maxHeartbeats 1000000 in
theorem lawB_neg (s : ByteArray) (z : Int) (w : World) (hs : s.size ≤ 1048576) (hz0 : -9223372036854775808 ≤ z) (hz1 : z ≤ 65536) (c1 : z ≤ 0) :
    Calls Try.prog 4 #[.string s, .int .i64 z] w fun e w' => e = .returned (.bool true) ∧ w = w' := by
  have hB : bytesB s = true := by unfold bytesB; simpa using hs
  have t1 : decide ((1048576 : Int) < (s.size : Int)) = false := by simp; omega
  have t2 : decide ((65536 : Int) < z) = false := by simp; omega
  have t3 : decide (0 < z) = false := by simp; omega
  go_enter Try.func4, Try.ntmps4
  go_wp2_with (go_at_call 9; refine (bytes9 _ _ _ (by unfold maxLen; omega)).mono ?_; rintro e w' ⟨rfl, rfl⟩)
  go_loop [5, 6] (fun v i => ∃ k : Nat, k ≤ s.size ∧ i = .int .i64 k ∧ v = .int .u64 (U (val (s.data.toList.take k)))) (fun _ i => s.size - (intOf i).toNat)
  case atStart => exact ⟨0, by omega, rfl, int_eq (by rw [List.take_zero, val_nil, U_zero])⟩
  case round =>
    obtain ⟨k, hk, rfl, rfl⟩ := hrel
    by_cases hlt : k < s.size
    · go_wp2_with (go_at_call 6; refine (dig6 _ _).mono ?_; rintro e w1 ⟨rfl, rfl⟩)
      go_round
      case rel => exact ⟨k + 1, by omega, by go_num, int_eq (want_step s k hlt)⟩
      case measure => simp [intOf]; omega
    · have x1 : decide ((k : Int) < (s.size : Int)) = false := by simp; omega
      have hkk : k = s.size := by omega
      have E : Hid (s.data.toList.take k = s.data.toList) := by show _ = _; rw [hkk, ← len_size, List.take_length]
      clear hkk
      go_wp2
      go_loop [5, 8] (fun v i => ∃ m : Nat, m ≤ 0 ∧ i = .int .i64 m ∧ v = .int .u64 (U (val s.data.toList * 10 ^ m))) (fun _ i => 0 - (intOf i).toNat)
      case atStart => exact ⟨0, by omega, rfl, int_eq (by rw [E.out, Nat.pow_zero, Nat.mul_one])⟩
      case round =>
        obtain ⟨m, hm, rfl, rfl⟩ := hrel
        by_cases hmt : m < 0
        · omega
        · have x2 : decide ((m : Int) < 0) = false := by rw [decide_eq_false_iff_not]; omega
          have X : Hid (m = 0) := by show _ = _; omega
          go_wp2
          go_loop [10, 11, 12] (fun acc rds rzs => ∃ (d : Nat) (rd : ByteArray), d ≤ s.size ∧ Hid (rd.data.toList = s.data.toList.drop d) ∧ rd.size + d = s.size ∧
              acc = .int .u64 (U (val (s.data.toList.take d))) ∧ rds = .string rd ∧ rzs = .int .i64 z) (fun _ rds rzs => strLen rds + (intOf rzs).toNat)
          case atStart => exact ⟨0, s, by omega, rfl, by omega, int_eq (by rw [List.take_zero, val_nil, U_zero]), rfl, rfl⟩
          case round =>
            obtain ⟨d, rd, h1, H, hsz, rfl, rfl, rfl⟩ := hrel
            have hr' : z ≤ 0 := c1
            by_cases hr0 : 0 < rd.size
            · by_cases h18 : 18 < rd.size
              · have hD : nD rd.size = 18 := by unfold nD; omega
                have hT : nT rd.size z = 0 := by unfold nT nD; omega
                go_wp2_with fail
                refine (chunk _ _ _ (by omega) (by omega) (by omega)).mono ?_
                rintro e w1 ⟨rfl, c, p, rd2, z2, hc, hp, hs2, hz2, rfl⟩
                have A : Hid (IntKind.u64.wrap (IntKind.u64.wrap (U (val (s.data.toList.take d)) * p) + c) = U (val (s.data.toList.take (d + nD rd.size)))) := acc_step0 s rd d z c p H.out hsz hr' hc hp
                have T5 := tail_is rd rd2 _ hs2
                have T6 := size_of rd rd2 hs2
                have H2 : Hid (rd2.data.toList = s.data.toList.drop (d + nD rd.size)) := drop_more s rd rd2 d _ H.out hs2
                have g3 : (p != P10 18) = false := by rw [hp, want_p rd z 18 (by omega)]; exact bne_self_eq_false _
                have R : Hid (d + nD rd.size ≤ s.size ∧ rd2.size + (d + nD rd.size) = s.size ∧ z2 = z) := by refine ⟨?_, ?_, ?_⟩ <;> omega
                have q1 : rd2.size + nD rd.size ≤ rd.size := by omega
                have q2 : rd.size ≤ rd2.size + nD rd.size := by omega
                have q3 : z2 + nT rd.size z ≤ z := by omega
                have q4 : z ≤ z2 + nT rd.size z := by omega
                have q5 : nD rd.size ≤ 18 := by omega
                have q6 : 18 ≤ nD rd.size := by omega
                have q7 : (nT rd.size z : Int) ≤ ((0 : Nat) : Int) := by omega
                have q8 : ((0 : Nat) : Int) ≤ nT rd.size z := by omega
                have g2 : ((rd2.size : Int) != (rd.size : Int) - 18) = false := by rw [Bool.eq_false_iff, Ne, bne_iff_ne]; omega
                clear hc hp hs2 hz2 T6 hD hT
                generalize nD rd.size = D at *
                generalize nT rd.size z = T at *
                go_wp2_with (go_at_call 7; refine (pow7 _ _ (by omega) (by omega)).mono ?_; rintro e w1 ⟨rfl, rfl⟩)
                all_goals
                  go_round
                  case rel => exact ⟨_, rd2, R.out.1, H2.out, R.out.2.1, int_eq A.out, rfl, int_eq R.out.2.2⟩
                  case measure => simp [strLen_s, intOf]; omega
              · have hD : nD rd.size = rd.size := by unfold nD; omega
                have hT : nT rd.size z = 0 := by unfold nT nD; omega
                go_wp2_with fail
                refine (chunk _ _ _ (by omega) (by omega) (by omega)).mono ?_
                rintro e w1 ⟨rfl, c, p, rd2, z2, hc, hp, hs2, hz2, rfl⟩
                have A : Hid (IntKind.u64.wrap (IntKind.u64.wrap (U (val (s.data.toList.take d)) * p) + c) = U (val (s.data.toList.take (d + nD rd.size)))) := acc_step0 s rd d z c p H.out hsz hr' hc hp
                have T5 := tail_is rd rd2 _ hs2
                have T6 := size_of rd rd2 hs2
                have H2 : Hid (rd2.data.toList = s.data.toList.drop (d + nD rd.size)) := drop_more s rd rd2 d _ H.out hs2
                have g3 : (p != P10 rd.size) = false := by rw [hp, want_p rd z rd.size (by omega)]; exact bne_self_eq_false _
                have R : Hid (d + nD rd.size ≤ s.size ∧ rd2.size + (d + nD rd.size) = s.size ∧ z2 = z) := by refine ⟨?_, ?_, ?_⟩ <;> omega
                have q1 : rd2.size + nD rd.size ≤ rd.size := by omega
                have q2 : rd.size ≤ rd2.size + nD rd.size := by omega
                have q3 : z2 + nT rd.size z ≤ z := by omega
                have q4 : z ≤ z2 + nT rd.size z := by omega
                have q5 : nD rd.size ≤ rd.size := by omega
                have q6 : rd.size ≤ nD rd.size := by omega
                have q7 : (nT rd.size z : Int) ≤ ((0 : Nat) : Int) := by omega
                have q8 : ((0 : Nat) : Int) ≤ nT rd.size z := by omega
                have hE : rd2 = ByteArray.empty := by apply ByteArray.ext; apply Array.eq_empty_of_size_eq_zero; show rd2.size = 0; omega
                clear hc hp hs2 hz2 T6 hD hT
                subst hE
                generalize nD rd.size = D at *
                generalize nT rd.size z = T at *
                go_wp2_with (go_at_call 7; refine (pow7 _ _ (by omega) (by omega)).mono ?_; rintro e w1 ⟨rfl, rfl⟩)
                all_goals
                  go_round
                  case rel => exact ⟨_, ByteArray.empty, R.out.1, H2.out, R.out.2.1, int_eq A.out, rfl, int_eq R.out.2.2⟩
                  case measure => simp [strLen_s, intOf]; omega
            · have HR : Hid (rd.size = 0) := by show _ = _; omega
              have hr1 : rd.size ≤ d - d := by omega
              clear hr0
              go_wp2_with fail
              refine (chunk _ _ _ (by omega) (by omega) (by omega)).mono ?_
              rintro e w1 ⟨rfl, c, p, rd2, z2, hc, hp, hs2, hz2, rfl⟩
              obtain ⟨e1, e2, e3, e4⟩ := end_c rd z HR.out hr'
              have T6 := size_of rd rd2 hs2
              have f1 : (U (val (s.data.toList.take d)) == U (val s.data.toList * 10 ^ m)) = true := beq_of (acc_end0 s d m (by omega) X.out)
              have f2 : (c == 0) = true := beq_of (hc.trans e1)
              have f3 : (p == 1) = true := beq_of (hp.trans e2)
              have f4 : rd2.toList.isEmpty = true := isEmpty_yes rd2 (by omega)
              have f5 : (z2 == z) = true := beq_of (by omega)
              have f6 : (z == z) = true := beq_of (by omega)
              clear hc hp hs2 hz2 e1 e2 e3 e4 T6
              go_wp2
              go_ret
              exact ⟨rfl, rfl⟩

set_option maxRecDepth 100000 in
theorem lawB_long (s : ByteArray) (z : Int) (w : World) (hs : s.size ≤ maxLen) (h : 1048576 < s.size) :
    Calls Try.prog 4 #[.string s, .int .i64 z] w fun e w' => e = .returned (.bool true) ∧ w = w' := by
  have hB : bytesB s = false := by unfold bytesB; simpa using h
  go_enter Try.func4, Try.ntmps4
  go_wp2_with (go_at_call 9; refine (bytes9 _ _ _ hs).mono ?_; rintro e w' ⟨rfl, rfl⟩)
  go_ret
  exact ⟨rfl, rfl⟩
set_option maxRecDepth 100000 in
theorem lawB_many (s : ByteArray) (z : Int) (w : World) (hs : s.size ≤ 1048576) (h : 65536 < z) :
    Calls Try.prog 4 #[.string s, .int .i64 z] w fun e w' => e = .returned (.bool true) ∧ w = w' := by
  have hB : bytesB s = true := by unfold bytesB; simpa using hs
  go_enter Try.func4, Try.ntmps4
  go_wp2_with (go_at_call 9; refine (bytes9 _ _ _ (by unfold maxLen; omega)).mono ?_; rintro e w' ⟨rfl, rfl⟩)
  go_ret
  exact ⟨rfl, rfl⟩

theorem lawB (s : ByteArray) (z : Int) (w : World) (hs : s.size ≤ maxLen) (hz0 : -9223372036854775808 ≤ z) :
    Calls Try.prog 4 #[.string s, .int .i64 z] w fun e w' => e = .returned (.bool true) ∧ w = w' := by
  by_cases h : s.size ≤ 1048576
  · by_cases hz : z ≤ 65536
    · by_cases h2 : 0 < z
      · exact lawB_pos s z w h hz0 hz h2
      · exact lawB_neg s z w h hz0 hz (by omega)
    · exact lawB_many s z w h (by omega)
  · exact lawB_long s z w hs (by omega)
end Go.Proofs.Qxb6627743a
