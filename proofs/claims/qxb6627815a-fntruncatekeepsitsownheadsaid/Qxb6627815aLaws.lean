import Derived.Test.Qxb6627815aTrunc
namespace Go.Proofs.Qxb6627815a
open Go.RowKit

theorem hide {p : Prop} (h : p) : Hid p := h
theorem beq_of {α : Type} [BEq α] [LawfulBEq α] {a b : α} (h : a = b) : (a == b) = true := by rw [h]; exact beq_self_eq_true _
/-- Truncate at a count that is not negative -/
def TruncN (s : ByteArray) (k : Nat) (e : Ending) : Prop := ∃ (h : ByteArray) (cut : Bool), e = .returned (.tuple #[.string h, .bool cut]) ∧
  h.data.toList = s.data.toList.take (offL k s.data.toList) ∧ h.size = offL k s.data.toList ∧ (cut = true ↔ k < cntL s.data.toList)
theorem truncN (s : ByteArray) (k : Nat) (n : Int) (hn : n = (k : Int)) (w : World) (hs : s.size ≤ 1048576) (hk : (k : Int) ≤ 9223372036854775807) :
    Calls Try.prog 8 #[.string s, .int .i64 n] w fun e w' => TruncN s k e ∧ Grown w w' := by
  subst hn
  refine (trunc8 s k w hs (by omega) hk).mono ?_
  rintro e w' ⟨⟨h, cut, rfl, hh⟩, G⟩
  refine ⟨⟨h, cut, rfl, ?_⟩, G⟩
  rcases hh with ⟨h1, _⟩ | ⟨_, h2, h3⟩
  · omega
  · rw [Int.toNat_natCast] at h2 h3
    refine ⟨h2, ?_, ?_⟩
    · rw [Lib.size_eq, h2, List.length_take]; have := offL_le k s.data.toList; omega
    · rw [h3, cnt_iff, len_eq, decide_eq_true_iff]
/-- the bool says whether P -/
def Is (v : Bool) (P : Prop) : Prop := v = true ↔ P
theorem Is.eq {b v : Bool} {P Q : Prop} (h : b = true ↔ P) (hv : Is v Q) (hpq : P ↔ Q) : b = v := by
  unfold Is at hv
  rw [Bool.eq_iff_iff, h, hv, hpq]
theorem rest_data (s : ByteArray) (k : Nat) : (s.extract k s.size).data.toList = s.data.toList.drop k := by
  rw [Lib.extract_data, List.take_of_length_le (by rw [List.length_drop, len_eq]; exact Nat.le_refl _)]

/-- the count of what is left -/
theorem cnt_rest (l : List UInt8) (n m : Nat) : m < cntL (l.drop (offL n l)) ↔ n + m < cntL l := by
  rw [cnt_iff, cnt_iff, offL_add n m l, List.length_drop]
  have := offL_le n l
  omega

set_option maxRecDepth 100000 in
set_option maxHeartbeats 1000000 in
theorem split_heart (s : ByteArray) (n m : Nat) (w : World) (hs : s.size ≤ 1048576) (hnm : (n : Int) + (m : Int) ≤ 9223372036854775807) :
    Calls Try.prog 3 #[.string s, .int .i64 n, .int .i64 m] w fun e w' => e = .returned (.bool true) ∧ Grown w w' := by
  have hB : bytesB s = true := by unfold bytesB; simpa using hs
  have hc := cnt_le s.data.toList
  rw [len_eq] at hc
  have ho := offL_le n s.data.toList
  rw [len_eq] at ho
  obtain ⟨v1, u1⟩ : ∃ v, v = decide (n < cntL s.data.toList) := ⟨_, rfl⟩
  obtain ⟨v2, u2⟩ : ∃ v, v = decide (n + m < cntL s.data.toList) := ⟨_, rfl⟩
  have V1 : Is v1 (n < cntL s.data.toList) := by show _ ↔ _; rw [u1, decide_eq_true_iff]
  have V2 : Is v2 (n + m < cntL s.data.toList) := by show _ ↔ _; rw [u2, decide_eq_true_iff]
  have d1 : decide ((n : Int) < (cntL s.data.toList : Int)) = v1 := by rw [u1]; exact decide_eq_decide.2 (by omega)
  have d2 : decide ((n : Int) + (m : Int) < (cntL s.data.toList : Int)) = v2 := by rw [u2]; exact decide_eq_decide.2 (by omega)
  have d3 : decide (n < cntL s.data.toList) = v1 := u1.symm
  clear u1 u2
  cases v1 <;> cases v2
  all_goals
    go_enter Try.func3, Try.ntmps3
    go_wp2_with (go_at_call 5; refine (bytes5 _ _ _ _ (by unfold maxLen; omega)).mono ?_; rintro e w' ⟨rfl, rfl⟩)
    refine (count6 s _ hs).mono ?_
    rintro e w1 ⟨rfl, hw⟩
    subst hw
    go_wp2_with fail
    refine (offset7 s n _ hs (by omega)).mono ?_
    rintro e w1 ⟨rfl, hw⟩
    subst hw
    go_wp2_with fail
    refine (truncN s n _ rfl _ hs (by omega)).mono ?_
    rintro e w1 ⟨⟨h1, cut1, rfl, a1, a2, a3⟩, g1⟩
    have G1 : Hid (Grown w w1) := g1
    have A1 : Hid (h1.data.toList = s.data.toList.take (offL n s.data.toList)) := a1
    have A2 : Hid (h1.size = offL n s.data.toList) := a2
    have k1 : h1.size ≤ s.size := by omega
    have f1 : (h1.toList == (s.extract 0 (offL n s.data.toList)).toList) = true := beq_of (by rw [Lib.toList_data, Lib.toList_data, take_data, a1])
    obtain rfl := Is.eq a3 V1 Iff.rfl
    clear a1 a2 a3 g1
    go_wp2_with fail
    refine (truncN (s.extract h1.size s.size) m _ rfl _ (by rw [ByteArray.size_extract]; omega) (by omega)).mono ?_
    rintro e w2 ⟨⟨h2, cut2, rfl, a1, a2, a3⟩, g2⟩
    have G2 : Hid (Grown w w2) := grown_trans G1.out g2
    have rd : (s.extract h1.size s.size).data.toList = s.data.toList.drop (offL n s.data.toList) := by rw [rest_data, A2.out]
    rw [rd] at a1 a2 a3
    obtain rfl := Is.eq a3 V2 (cnt_rest s.data.toList n m)
    have B1 : Hid (h2.data.toList = (s.data.toList.drop (offL n s.data.toList)).take (offL m (s.data.toList.drop (offL n s.data.toList)))) := a1
    have k2 : h2.size ≤ 1048576 := by rw [a2]; have := offL_le m (s.data.toList.drop (offL n s.data.toList)); rw [List.length_drop, len_eq] at this; omega
    clear a1 a2 a3 g2 rd
    go_wp2_with fail
    refine (truncN s (n + m) _ (by omega) _ hs (by omega)).mono ?_
    rintro e w3 ⟨⟨h3, cut3, rfl, a1, a2, a3⟩, g3⟩
    have G3 : Hid (Grown w w3) := grown_trans G2.out g3
    obtain rfl := Is.eq a3 V2 Iff.rfl
    have f2 : (h3.toList == (h1 ++ h2).toList) = true := beq_of (by
      rw [Lib.toList_data, Lib.toList_data, a1, ByteArray.data_append, Array.toList_append, A1.out, B1.out, offL_add n m, List.take_add])
    clear a1 a2 a3 g3
    go_wp2
    go_ret
    exact ⟨rfl, G3.out⟩

set_option maxRecDepth 100000 in
theorem split_long (s : ByteArray) (n m : Int) (w : World) (hs : s.size ≤ maxLen) (hB : bytesB s = false) :
    Calls Try.prog 3 #[.string s, .int .i64 n, .int .i64 m] w fun e w' => e = .returned (.bool true) ∧ Grown w w' := by
  go_enter Try.func3, Try.ntmps3
  go_wp2_with (go_at_call 5; refine (bytes5 _ _ _ _ hs).mono ?_; rintro e w' ⟨rfl, rfl⟩)
  go_ret
  exact ⟨rfl, Grown.refl _⟩
set_option maxRecDepth 100000 in
theorem split_out (s : ByteArray) (n m : Int) (w : World) (hs : s.size ≤ 1048576) (hn : -9223372036854775808 ≤ n ∧ n ≤ 9223372036854775807) (hm : -9223372036854775808 ≤ m ∧ m ≤ 9223372036854775807) (hB : bytesB s = true)
    (h : n < 0 ∨ (0 ≤ n ∧ m < 0) ∨ (0 ≤ n ∧ 0 ≤ m ∧ 9223372036854775807 - m < n)) :
    Calls Try.prog 3 #[.string s, .int .i64 n, .int .i64 m] w fun e w' => e = .returned (.bool true) ∧ Grown w w' := by
  obtain ⟨n1, n2⟩ := hn
  obtain ⟨m1, m2⟩ := hm
  rcases h with h | ⟨h1, h⟩ | ⟨h1, h2, h⟩
  all_goals
    go_enter Try.func3, Try.ntmps3
    go_wp2_with (go_at_call 5; refine (bytes5 _ _ _ _ (by unfold maxLen; omega)).mono ?_; rintro e w' ⟨rfl, rfl⟩)
    go_ret
    exact ⟨rfl, Grown.refl _⟩
theorem split (s : ByteArray) (n m : Int) (w : World) (hs : s.size ≤ maxLen) (hn : -9223372036854775808 ≤ n ∧ n ≤ 9223372036854775807) (hm : -9223372036854775808 ≤ m ∧ m ≤ 9223372036854775807) :
    Calls Try.prog 3 #[.string s, .int .i64 n, .int .i64 m] w fun e w' => e = .returned (.bool true) ∧ Grown w w' := by
  by_cases h : s.size ≤ 1048576
  · have hB : bytesB s = true := by unfold bytesB; simpa using h
    by_cases ho : 0 ≤ n ∧ 0 ≤ m ∧ n + m ≤ 9223372036854775807
    · obtain ⟨h1, h2, h3⟩ := ho
      obtain ⟨n, rfl⟩ := Int.eq_ofNat_of_zero_le h1
      obtain ⟨m, rfl⟩ := Int.eq_ofNat_of_zero_le h2
      exact split_heart s n m w h h3
    · exact split_out s n m w h hn hm hB (by omega)
  · exact split_long s n m w hs (by unfold bytesB; simpa using h)
end Go.Proofs.Qxb6627815a
