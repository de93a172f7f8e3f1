import Derived.Test.Qxb6627815aPlain
namespace Go.Proofs.Qxb6627815a

theorem get_at' (s : ByteArray) (i k : Nat) (h : i + k < s.size) : s.get! (i + k) = s[i + k] := by
  simp [ByteArray.get!, getElem!_pos, h]
  rfl
theorem valid_iff (r : Nat) : Utf8.valid (r : Int) = true ↔ r < 55296 ∨ (57344 ≤ r ∧ r ≤ 1114111) := by
  unfold Utf8.valid
  rw [Bool.or_eq_true, Bool.and_eq_true, Bool.and_eq_true, decide_eq_true_iff, decide_eq_true_iff, decide_eq_true_iff, decide_eq_true_iff]
  omega

/-- the decoder's width, over plain numbers: 'x1', 'x2', 'x3': the byte is there -/
def dw (a b c d : Nat) (x1 x2 x3 : Bool) : Nat :=
  if a < 128 then 1
  else if a / 32 = 6 ∧ x1 = true ∧ b / 64 = 2 then (if 128 ≤ a % 32 * 64 + b % 64 then 2 else 1)
  else if a / 16 = 14 ∧ (x1 = true ∧ b / 64 = 2) ∧ x2 = true ∧ c / 64 = 2 then
    (if 2048 ≤ a % 16 * 4096 + b % 64 * 64 + c % 64 ∧ (a % 16 * 4096 + b % 64 * 64 + c % 64 < 55296 ∨ (57344 ≤ a % 16 * 4096 + b % 64 * 64 + c % 64 ∧ a % 16 * 4096 + b % 64 * 64 + c % 64 ≤ 1114111)) then 3 else 1)
  else if a / 8 = 30 ∧ (x1 = true ∧ b / 64 = 2) ∧ (x2 = true ∧ c / 64 = 2) ∧ x3 = true ∧ d / 64 = 2 then
    (if 65536 ≤ a % 8 * 262144 + b % 64 * 4096 + c % 64 * 64 + d % 64 ∧ (a % 8 * 262144 + b % 64 * 4096 + c % 64 * 64 + d % 64 < 55296 ∨ (57344 ≤ a % 8 * 262144 + b % 64 * 4096 + c % 64 * 64 + d % 64 ∧ a % 8 * 262144 + b % 64 * 4096 + c % 64 * 64 + d % 64 ≤ 1114111)) then 4 else 1)
  else 1
set_option maxRecDepth 100000 in
theorem dec_dw (s : ByteArray) (i : Nat) : (Utf8.decode s i).2 = dw (s.get! (i + 0)).toNat (s.get! (i + 1)).toNat (s.get! (i + 2)).toNat (s.get! (i + 3)).toNat (decide (i + 1 < s.size)) (decide (i + 2 < s.size)) (decide (i + 3 < s.size)) := by
  unfold dw Utf8.decode
  dsimp only
  by_cases h1 : (s.get! (i + 0)).toNat < 128
  · rw [if_pos h1, if_pos h1]
  rw [if_neg h1, if_neg h1]
  by_cases h2 : (s.get! (i + 0)).toNat / 32 = 6 ∧ (decide (i + 1 < s.size)) = true ∧ (s.get! (i + 1)).toNat / 64 = 2
  · rw [if_pos h2, if_pos (by simpa using h2)]
    by_cases h3 : 128 ≤ (s.get! (i + 0)).toNat % 32 * 64 + (s.get! (i + 1)).toNat % 64
    · rw [if_pos h3, if_pos h3]
    · rw [if_neg h3, if_neg h3]
  rw [if_neg h2, if_neg (by simpa using h2)]
  by_cases h4 : (s.get! (i + 0)).toNat / 16 = 14 ∧ ((decide (i + 1 < s.size)) = true ∧ (s.get! (i + 1)).toNat / 64 = 2) ∧ (decide (i + 2 < s.size)) = true ∧ (s.get! (i + 2)).toNat / 64 = 2
  · rw [if_pos h4, if_pos (by simpa [and_assoc] using h4)]
    by_cases h5 : 2048 ≤ (s.get! (i + 0)).toNat % 16 * 4096 + (s.get! (i + 1)).toNat % 64 * 64 + (s.get! (i + 2)).toNat % 64 ∧ ((s.get! (i + 0)).toNat % 16 * 4096 + (s.get! (i + 1)).toNat % 64 * 64 + (s.get! (i + 2)).toNat % 64 < 55296 ∨ (57344 ≤ (s.get! (i + 0)).toNat % 16 * 4096 + (s.get! (i + 1)).toNat % 64 * 64 + (s.get! (i + 2)).toNat % 64 ∧ (s.get! (i + 0)).toNat % 16 * 4096 + (s.get! (i + 1)).toNat % 64 * 64 + (s.get! (i + 2)).toNat % 64 ≤ 1114111))
    · rw [if_pos h5, if_pos (by rw [Bool.and_eq_true, decide_eq_true_iff, valid_iff]; exact h5)]
    · rw [if_neg h5, if_neg (by rw [Bool.and_eq_true, decide_eq_true_iff, valid_iff]; exact h5)]
  rw [if_neg h4, if_neg (by simpa [and_assoc] using h4)]
  by_cases h6 : (s.get! (i + 0)).toNat / 8 = 30 ∧ ((decide (i + 1 < s.size)) = true ∧ (s.get! (i + 1)).toNat / 64 = 2) ∧ ((decide (i + 2 < s.size)) = true ∧ (s.get! (i + 2)).toNat / 64 = 2) ∧ (decide (i + 3 < s.size)) = true ∧ (s.get! (i + 3)).toNat / 64 = 2
  · rw [if_pos h6, if_pos (by simpa [and_assoc] using h6)]
    by_cases h7 : 65536 ≤ (s.get! (i + 0)).toNat % 8 * 262144 + (s.get! (i + 1)).toNat % 64 * 4096 + (s.get! (i + 2)).toNat % 64 * 64 + (s.get! (i + 3)).toNat % 64 ∧ ((s.get! (i + 0)).toNat % 8 * 262144 + (s.get! (i + 1)).toNat % 64 * 4096 + (s.get! (i + 2)).toNat % 64 * 64 + (s.get! (i + 3)).toNat % 64 < 55296 ∨ (57344 ≤ (s.get! (i + 0)).toNat % 8 * 262144 + (s.get! (i + 1)).toNat % 64 * 4096 + (s.get! (i + 2)).toNat % 64 * 64 + (s.get! (i + 3)).toNat % 64 ∧ (s.get! (i + 0)).toNat % 8 * 262144 + (s.get! (i + 1)).toNat % 64 * 4096 + (s.get! (i + 2)).toNat % 64 * 64 + (s.get! (i + 3)).toNat % 64 ≤ 1114111))
    · rw [if_pos h7, if_pos (by rw [Bool.and_eq_true, decide_eq_true_iff, valid_iff]; exact h7)]
    · rw [if_neg h7, if_neg (by rw [Bool.and_eq_true, decide_eq_true_iff, valid_iff]; exact h7)]
  rw [if_neg h6, if_neg (by simpa [and_assoc] using h6)]

def tw (a b c d : Nat) (x1 x2 x3 : Bool) : Nat :=
  if x3 = true ∧ c4 a b c d = true then 4 else if x2 = true ∧ c3 a b c = true then 3 else if x1 = true ∧ c2 a b = true then 2 else 1
theorem dw_tw (a b c d : Nat) (x1 x2 x3 : Bool) (ha : a < 256) (hb : b < 256) (hc : c < 256) (hd : d < 256) (h21 : x2 = true → x1 = true) (h32 : x3 = true → x2 = true) : dw a b c d x1 x2 x3 = tw a b c d x1 x2 x3 := by
  unfold dw tw
  simp only [c4_iff, c3_iff, c2_iff]
  by_cases h1 : a < 128
  · rw [if_pos h1, if_neg (by omega), if_neg (by omega), if_neg (by omega)]
  rw [if_neg h1]
  by_cases h2 : a / 32 = 6 ∧ x1 = true ∧ b / 64 = 2
  · rw [if_pos h2]
    by_cases h3 : 128 ≤ a % 32 * 64 + b % 64
    · rw [if_pos h3, if_neg (by omega), if_neg (by omega), if_pos ⟨h2.2.1, by omega⟩]
    · rw [if_neg h3, if_neg (by omega), if_neg (by omega), if_neg (by omega)]
  rw [if_neg h2]
  by_cases h4 : a / 16 = 14 ∧ (x1 = true ∧ b / 64 = 2) ∧ x2 = true ∧ c / 64 = 2
  · rw [if_pos h4]
    obtain ⟨h4a, ⟨h4b, h4c⟩, h4d, h4e⟩ := h4
    by_cases h5 : 2048 ≤ a % 16 * 4096 + b % 64 * 64 + c % 64 ∧ (a % 16 * 4096 + b % 64 * 64 + c % 64 < 55296 ∨ (57344 ≤ a % 16 * 4096 + b % 64 * 64 + c % 64 ∧ a % 16 * 4096 + b % 64 * 64 + c % 64 ≤ 1114111))
    · rw [if_pos h5, if_neg (by omega), if_pos ⟨h4d, by omega⟩]
    · rw [if_neg h5, if_neg (by omega), if_neg (by omega), if_neg (by omega)]
  rw [if_neg h4]
  by_cases h6 : a / 8 = 30 ∧ (x1 = true ∧ b / 64 = 2) ∧ (x2 = true ∧ c / 64 = 2) ∧ x3 = true ∧ d / 64 = 2
  · rw [if_pos h6]
    obtain ⟨h6a, ⟨h6b, h6c⟩, ⟨h6d, h6e⟩, h6f, h6g⟩ := h6
    by_cases h7 : 65536 ≤ a % 8 * 262144 + b % 64 * 4096 + c % 64 * 64 + d % 64 ∧ (a % 8 * 262144 + b % 64 * 4096 + c % 64 * 64 + d % 64 < 55296 ∨ (57344 ≤ a % 8 * 262144 + b % 64 * 4096 + c % 64 * 64 + d % 64 ∧ a % 8 * 262144 + b % 64 * 4096 + c % 64 * 64 + d % 64 ≤ 1114111))
    · rw [if_pos h7, if_pos ⟨h6f, by omega⟩]
    · rw [if_neg h7, if_neg (by omega), if_neg (by omega), if_neg (by omega)]
  rw [if_neg h6]
  cases x1 <;> cases x2 <;> cases x3 <;> simp only [true_and, false_and, and_false, reduceCtorEq, if_false, forall_const, imp_false] at *
  all_goals
    first
      | rfl
      | (rw [if_neg (by omega), if_neg (by omega), if_neg (by omega)])
      | (rw [if_neg (by omega), if_neg (by omega)])
      | (rw [if_neg (by omega)])
theorem dec_wl (s : ByteArray) (i : Nat) (h : i < s.size) : (Utf8.decode s i).2 = wl (s.data.toList.drop i) := by
  rw [dec_dw, dw_tw _ _ _ _ _ _ _ (UInt8.toNat_lt _) (UInt8.toNat_lt _) (UInt8.toNat_lt _) (UInt8.toNat_lt _) (by rw [decide_eq_true_iff, decide_eq_true_iff]; omega) (by rw [decide_eq_true_iff, decide_eq_true_iff]; omega)]
  unfold tw
  have e0 := Go.get_at s i h
  by_cases h3 : i + 3 < s.size
  · rw [wl_of4 s i h3, e0, get_at' s i 1 (by omega), get_at' s i 2 (by omega), get_at' s i 3 h3]
    simp only [h3, show i + 1 < s.size from by omega, show i + 2 < s.size from by omega, decide_true, true_and]
  · by_cases h2 : i + 2 < s.size
    · rw [wl_of3 s i h2 (by omega), e0, get_at' s i 1 (by omega), get_at' s i 2 h2]
      simp only [h3, h2, show i + 1 < s.size from by omega, decide_true, decide_false, true_and, reduceCtorEq, false_and, if_false]
    · by_cases h1 : i + 1 < s.size
      · rw [wl_of2 s i h1 (by omega), e0, get_at' s i 1 h1]
        simp only [h3, h2, h1, decide_true, decide_false, true_and, reduceCtorEq, false_and, if_false]
      · rw [wl_of1 s i h (by omega)]
        simp only [h3, h2, h1, decide_false, reduceCtorEq, false_and, if_false]
end Go.Proofs.Qxb6627815a
