import Derived.Test.Qxb6627815aLaws
namespace Go.Proofs.Qxb6627815a
open Go.RowKit

theorem truncNeg (s : ByteArray) (n : Int) (w : World) (hs : s.size ≤ 1048576) (hn0 : -9223372036854775808 ≤ n) (hn : n < 0) :
    Calls Try.prog 8 #[.string s, .int .i64 n] w fun e w' => e = .returned (.tuple #[.string s, .bool false]) ∧ Grown w w' := by
  refine (trunc8 s n w hs hn0 (by omega)).mono ?_
  rintro e w' ⟨⟨h, cut, rfl, hh⟩, G⟩
  rcases hh with ⟨_, rfl, rfl⟩ | ⟨h0, _⟩
  · exact ⟨rfl, G⟩
  · omega
theorem full_cut (s : ByteArray) : ((s.extract 0 s.size).toList == s.toList) = true := beq_of (by
  rw [Lib.toList_data, Lib.toList_data, take_data, ← len_eq, List.take_length])

set_option maxRecDepth 100000 in
theorem keep_neg (s : ByteArray) (n : Int) (w : World) (hs : s.size ≤ 1048576) (hn0 : -9223372036854775808 ≤ n) (hn : n < 0) :
    Calls Try.prog 4 #[.string s, .int .i64 n] w fun e w' => e = .returned (.bool true) ∧ Grown w w' := by
  have hB : bytesB s = true := by unfold bytesB; simpa using hs
  have hc := cnt_le s.data.toList
  rw [len_eq] at hc
  have f0 := full_cut s
  have t1 : decide ((0 : Int) ≤ n) = false := by simp; omega
  go_enter Try.func4, Try.ntmps4
  go_wp2_with (go_at_call 9; refine (bytes9 _ _ _ (by unfold maxLen; omega)).mono ?_; rintro e w' ⟨rfl, rfl⟩)
  refine (truncNeg s n _ hs hn0 hn).mono ?_
  rintro e w1 ⟨rfl, g1⟩
  have G1 : Hid (Grown w w1) := g1
  clear g1
  go_wp2_with fail
  refine (count6 s _ hs).mono ?_
  rintro e w1' ⟨rfl, hw⟩
  subst hw
  go_wp2_with fail
  refine (truncNeg s n _ hs hn0 hn).mono ?_
  rintro e w2 ⟨rfl, g2⟩
  have G2 : Hid (Grown w w2) := grown_trans G1.out g2
  clear g2
  go_wp2_with (go_at_call 6; refine (count6 s _ hs).mono ?_; rintro e w3 ⟨rfl, rfl⟩)
  go_ret
  exact ⟨rfl, G2.out⟩

set_option maxRecDepth 100000 in
set_option maxHeartbeats 1000000 in
theorem keep_heart (s : ByteArray) (k : Nat) (w : World) (hs : s.size ≤ 1048576) (hk : (k : Int) ≤ 9223372036854775807) :
    Calls Try.prog 4 #[.string s, .int .i64 k] w fun e w' => e = .returned (.bool true) ∧ Grown w w' := by
  have hB : bytesB s = true := by unfold bytesB; simpa using hs
  have hc := cnt_le s.data.toList
  rw [len_eq] at hc
  have ho := offL_le k s.data.toList
  rw [len_eq] at ho
  have hci := cnt_iff s.data.toList k
  rw [len_eq] at hci
  have CI := hide hci
  clear hci
  obtain ⟨v1, u1⟩ : ∃ v, v = decide (k < cntL s.data.toList) := ⟨_, rfl⟩
  have V1 : Is v1 (k < cntL s.data.toList) := by show _ ↔ _; rw [u1, decide_eq_true_iff]
  have d1 : decide ((k : Int) < (cntL s.data.toList : Int)) = v1 := by rw [u1]; exact decide_eq_decide.2 (by omega)
  have d3 : decide (k < cntL s.data.toList) = v1 := u1.symm
  have W : Hid ((v1 = true ∧ k < cntL s.data.toList) ∨ (v1 = false ∧ ¬ k < cntL s.data.toList)) := by
    by_cases c : k < cntL s.data.toList
    · exact .inl ⟨by rw [u1]; exact decide_eq_true c, c⟩
    · exact .inr ⟨by rw [u1]; exact decide_eq_false c, c⟩
  clear u1
  rcases W.out with ⟨rfl, c1⟩ | ⟨rfl, c1⟩
  all_goals
    clear W
    have C1 := hide c1
    clear c1
    go_enter Try.func4, Try.ntmps4
    go_wp2_with (go_at_call 9; refine (bytes9 _ _ _ (by unfold maxLen; omega)).mono ?_; rintro e w' ⟨rfl, rfl⟩)
    refine (truncN s k _ rfl _ hs hk).mono ?_
    rintro e w1 ⟨⟨h1, cut1, rfl, a1, a2, a3⟩, g1⟩
    have G1 : Hid (Grown w w1) := g1
    obtain rfl := Is.eq a3 V1 Iff.rfl
    have A1 : Hid (h1.data.toList = s.data.toList.take (offL k s.data.toList)) := a1
    have A2 : Hid (h1.size = offL k s.data.toList) := a2
    have k1 : h1.size ≤ s.size := by omega
    have f1 : ((s.extract 0 h1.size).toList == h1.toList) = true := beq_of (by rw [Lib.toList_data, Lib.toList_data, take_data, a1, a2])
    clear a1 a2 a3 g1
    go_wp2_with fail
    refine (count6 s _ hs).mono ?_
    rintro e w1' ⟨rfl, hw⟩
    subst hw
    go_wp2_with fail
    refine (truncN h1 k _ rfl _ (by omega) hk).mono ?_
    rintro e w2 ⟨⟨h2, cut2, rfl, a1, a2, a3⟩, g2⟩
    have G2 : Hid (Grown w w2) := grown_trans G1.out g2
    have cn : cntL h1.data.toList = min k (cntL s.data.toList) := by rw [A1.out]; exact cnt_take _ _
    have CN := hide cn
    obtain rfl : cut2 = false := by
      cases cut2 with
      | false => rfl
      | true => have := a3.1 rfl; omega
    have on : offL k h1.data.toList = h1.size := by rw [A2.out, A1.out, offL_take k k (Nat.le_refl _)]
    have f2 : (h2.toList == h1.toList) = true := beq_of (by rw [Lib.toList_data, Lib.toList_data, a1, on, ← len_eq, List.take_length])
    clear a1 a2 a3 g2 cn on
    have W2 : h1.size < s.size ↔ k < cntL s.data.toList := by rw [A2.out]; exact CI.out.symm
    have z : (cntL h1.data.toList = k ∧ k < cntL s.data.toList) ∨ (cntL h1.data.toList = cntL s.data.toList ∧ ¬ k < cntL s.data.toList) := by have := CN.out; omega
    have Z := hide z
    have W2' := hide W2
    clear z W2
    by_cases hlt : h1.size < s.size
    · have e1 : k < cntL s.data.toList := W2'.out.1 hlt
      have d5 : decide ((h1.size : Int) < (s.size : Int)) = true := by rw [decide_eq_true_iff]; omega
      have f3 : ((cntL h1.data.toList : Int) == (k : Int)) = true := beq_of (by have := Z.out; omega)
      first
        | exact absurd e1 C1.out
        | (clear e1
           go_wp2_with (go_at_call 6; refine (count6 h1 _ (by omega)).mono ?_; rintro e w3 ⟨rfl, rfl⟩)
           go_ret
           exact ⟨rfl, G2.out⟩)
    · have e1 : ¬ k < cntL s.data.toList := fun c => hlt (W2'.out.2 c)
      have d5 : decide ((h1.size : Int) < (s.size : Int)) = false := by rw [decide_eq_false_iff_not]; omega
      have f3 : ((cntL h1.data.toList : Int) == (cntL s.data.toList : Int)) = true := beq_of (by have := Z.out; omega)
      first
        | exact absurd C1.out e1
        | (clear e1
           go_wp2_with (go_at_call 6; refine (count6 h1 _ (by omega)).mono ?_; rintro e w3 ⟨rfl, rfl⟩)
           go_ret
           exact ⟨rfl, G2.out⟩)

set_option maxRecDepth 100000 in
theorem keep (s : ByteArray) (n : Int) (w : World) (hs : s.size ≤ maxLen) (hn : -9223372036854775808 ≤ n ∧ n ≤ 9223372036854775807) :
    Calls Try.prog 4 #[.string s, .int .i64 n] w fun e w' => e = .returned (.bool true) ∧ Grown w w' := by
  by_cases h : s.size ≤ 1048576
  · by_cases h1 : 0 ≤ n
    · obtain ⟨k, rfl⟩ := Int.eq_ofNat_of_zero_le h1
      exact keep_heart s k w h hn.2
    · exact keep_neg s n w h hn.1 (by omega)
  · have hB : bytesB s = false := by unfold bytesB; simpa using h
    go_enter Try.func4, Try.ntmps4
    go_wp2_with (go_at_call 9; refine (bytes9 _ _ _ hs).mono ?_; rintro e w' ⟨rfl, rfl⟩)
    go_ret
    exact ⟨rfl, Grown.refl _⟩
end Go.Proofs.Qxb6627815a
