import Derived.Test.Qxb6627684aRows
import Derived.Test.Qxb6627684aPlain
import Derived.WalkKit
import Derived.WalkSpells
import Derived.BigQuiet
import Derived.Deep.QuietTactic
namespace Go.Proofs.Qxb6627684a
open Go.RowKit

theorem ret_str {a b : ByteArray} (h : a = b) : Ending.returned (.string a) = .returned (.string b) := by rw [h]
theorem ret_bool {a b : Bool} (h : a = b) : Ending.returned (.bool a) = .returned (.bool b) := by rw [h]

theorem grown_trans {a b c : World} (h1 : Grown a b) (h2 : Grown b c) : Grown a c :=
  ⟨World.keptBut_trans h1.1 h2.1, fun x => (h2.2.1 x).trans (h1.2.1 x), Nat.le_trans h1.2.2 h2.2.2⟩
theorem grown_drewN {a b : World} (h : Grown a b) (n : Nat) : Grown a (b.drewN n) := h

theorem hasPre (s : ByteArray) (w : World) (hs : s.size ≤ maxLen) :
    Calls Try.prog 9 #[.string s, .string ⟨#[47]⟩] w fun e w' => e = .returned (.bool (hasS s)) ∧ w' = w := by
  unfold maxLen at hs
  go_enter Try.func9, Try.ntmps9
  go_wp2
  · go_ret
    exact ⟨rfl, rfl⟩
  · go_ret
    refine ⟨ret_bool ?_, rfl⟩
    cases h : hasS s with
    | false => rfl
    | true => have := hasS_size s h; omega

theorem trim8 (s : ByteArray) (w : World) (hs : s.size ≤ maxLen) :
    Calls Try.prog 8 #[.string s, .string ⟨#[47]⟩] w fun e w' => e = .returned (.string (trimS s)) ∧ w' = w := by
  by_cases h : hasS s = true
  · have hsz := hasS_size s h
    have E : Hid (trimS s = s.extract 1 s.size) := if_pos h
    have hsI : (s.size : Int) ≤ 9223372036854775807 := by unfold maxLen at hs; omega
    go_enter Try.func8, Try.ntmps8
    go_wp2_with (go_at_call 9; refine (hasPre _ _ hs).mono ?_; rintro e w' ⟨rfl, rfl⟩)
    go_ret
    exact ⟨ret_str E.out.symm, rfl⟩
  · have E : Hid (trimS s = s) := if_neg h
    have h' : hasS s = false := by simpa using h
    go_enter Try.func8, Try.ntmps8
    go_wp2_with (go_at_call 9; refine (hasPre _ _ hs).mono ?_; rintro e w' ⟨rfl, rfl⟩)
    go_ret
    exact ⟨ret_str E.out.symm, rfl⟩

theorem trim7 (s : ByteArray) (w : World) (hs : s.size ≤ maxLen) :
    Calls Try.prog 7 #[.string s, .string ⟨#[47]⟩] w fun e w' => e = .returned (.string (trimS s)) ∧ w' = w := by
  go_enter Try.func7, Try.ntmps7
  go_wp2_with (go_at_call 8; refine (trim8 _ _ hs).mono ?_; rintro e w' ⟨rfl, rfl⟩)
  go_ret
  exact ⟨rfl, rfl⟩

theorem imp6 (pat root rp : ByteArray) (w : World) (hp : pat.size ≤ 1048576) (hr : root.size ≤ pat.size) (hq : rp.size ≤ 2097154) :
    Calls Try.prog 6 #[.agg #[.string pat, .string root], .string rp] w fun e w' => e = .returned (.string (impPat pat root rp)) ∧ Grown w w' := by
  have ht := trimS_size (pat.extract root.size pat.size)
  have hx : (pat.extract root.size pat.size).size ≤ 1048576 := by rw [ByteArray.size_extract]; omega
  have ht2 : (trimS (pat.extract root.size pat.size)).size ≤ 1048576 := by omega
  clear ht hx
  go_enter Try.func6, Try.ntmps6
  go_wp2_with (go_at_call 7; refine (trim7 _ _ (by unfold maxLen; simp; omega)).mono ?_; rintro e w' ⟨rfl, rfl⟩)
  · have h1 : (trimS (pat.extract root.size pat.size)).toList.isEmpty = true := by assumption
    go_ret
    exact ⟨ret_str (if_pos h1).symm, by repeat (first | exact Grown.refl _ | apply Grown.drew | apply Grown.alloc)⟩
  · have h1 : (trimS (pat.extract root.size pat.size)).toList.isEmpty = false := by assumption
    have h2 : rp.toList.isEmpty = true := by assumption
    go_ret
    exact ⟨ret_str (by unfold impPat; rw [if_neg (by rw [h1]; decide), if_pos h2]), by repeat (first | exact Grown.refl _ | apply Grown.drew | apply Grown.alloc)⟩
  · have h1 : (trimS (pat.extract root.size pat.size)).toList.isEmpty = false := by assumption
    have h2 : rp.toList.isEmpty = false := by assumption
    go_ret
    exact ⟨ret_str (by unfold impPat; rw [if_neg (by rw [h1]; decide), if_neg (by rw [h2]; decide)]), by repeat (first | exact Grown.refl _ | apply Grown.drew | apply Grown.alloc)⟩

theorem pre_step (s p : ByteArray) (k : Nat) (hs : k < s.size) (hp : k < p.size) (h : p.data.toList.take k = s.data.toList.take k) :
    (s[k].toNat : Int) = (p[k].toNat : Int) → p.data.toList.take (k + 1) = s.data.toList.take (k + 1) := by
  intro e
  have hs' : k < s.data.toList.length := by rw [← Lib.size_eq]; exact hs
  have hp' : k < p.data.toList.length := by rw [← Lib.size_eq]; exact hp
  rw [List.take_succ_eq_append_getElem hs', List.take_succ_eq_append_getElem hp', h]
  have e2 : s[k] = p[k] := UInt8.toNat_inj.1 (by omega)
  have e3 : s.data.toList[k] = s[k] := rfl
  have e4 : p.data.toList[k] = p[k] := rfl
  rw [e3, e4, e2]
theorem data_at (s : ByteArray) (i : Nat) (h : i < s.size) : s.data.toList[i]? = some s[i] := by
  rw [List.getElem?_eq_getElem (by rw [← Lib.size_eq]; exact h)]; rfl
theorem pre_no (s p : ByteArray) (k : Nat) (hs : k < s.size) (hp : k < p.size) (h : ¬ (s[k].toNat : Int) = (p[k].toNat : Int)) : preB s p = false := by
  unfold preB
  rw [Bool.eq_false_iff, Ne, List.isPrefixOf_iff_prefix]
  rintro ⟨t, ht⟩
  apply h
  have e3 : s.data.toList[k]? = some s[k] := data_at s k hs
  have e4 : p.data.toList[k]? = some p[k] := data_at p k hp
  rw [← ht, List.getElem?_append_left (by rw [← Lib.size_eq]; exact hp), e4] at e3
  simp at e3; rw [e3]
theorem pre_yes (s p : ByteArray) (h : p.data.toList.take p.size = s.data.toList.take p.size) : preB s p = true := by
  unfold preB
  rw [List.isPrefixOf_iff_prefix, List.prefix_iff_eq_take, ← Lib.size_eq]
  rw [← h, Lib.size_eq, List.take_length]
theorem pre_long (s p : ByteArray) (h : s.size < p.size) : preB s p = false := by
  unfold preB
  rw [Bool.eq_false_iff, Ne, List.isPrefixOf_iff_prefix]
  intro c
  have := c.length_le
  rw [← Lib.size_eq, ← Lib.size_eq] at this
  omega


theorem pre5 (s p : ByteArray) (w : World) (hs : s.size ≤ 4194304) (_hp : p.size ≤ 4194304) :
    Calls Try.prog 5 #[.string s, .string p] w fun e w' => e = .returned (.bool (preB s p)) ∧ Grown w w' := by
  by_cases hl : s.size < p.size
  · have E : Hid (preB s p = false) := pre_long s p hl
    go_enter Try.func5, Try.ntmps5
    go_wp2
    go_ret
    exact ⟨ret_bool E.out.symm, Grown.refl _⟩
  · have hl' : p.size ≤ s.size := by omega
    go_enter Try.func5, Try.ntmps5
    go_wp2
    go_loopw [5] (fun i wr => ∃ k : Nat, k ≤ p.size ∧ i = .int .i64 k ∧ Hid (p.data.toList.take k = s.data.toList.take k) ∧ Grown w wr) (fun i _ => p.size - (intOf i).toNat)
    case atStart => exact ⟨0, Nat.zero_le _, rfl, rfl, Grown.refl _⟩
    case round =>
      obtain ⟨k, hk, rfl, H, G0⟩ := hrel
      have G : Hid (Grown w wr) := G0
      clear G0
      by_cases hlt : k < p.size
      · have hlt2 : k < s.size := by omega
        go_wp2
        go_quiet (fail)
        go_wp2
        · have hne : ((s[k].toNat : Int) != (p[k].toNat : Int)) = true := by assumption
          go_ret
          exact ⟨ret_bool (pre_no s p k hlt2 hlt (by simpa using hne)).symm, grown_drewN G.out _⟩
        · have hne : ((s[k].toNat : Int) != (p[k].toNat : Int)) = false := by assumption
          go_roundw
          case rel => exact ⟨k + 1, by omega, by go_num, pre_step s p k hlt2 hlt H.out (by simpa using hne), grown_drewN G.out _⟩
          case measure => simp [intOf]; omega
      · go_wp2
        go_ret
        have e : k = p.size := by omega
        subst e
        exact ⟨ret_bool (pre_yes s p H.out).symm, G.out⟩

def bytesB (a b c : ByteArray) : Bool := decide (a.size + b.size + c.size ≤ 1048576)
theorem bytes4 (a b c : ByteArray) (k : Int) (w : World) (ha : a.size ≤ maxLen) (hb : b.size ≤ maxLen) (hc : c.size ≤ maxLen) :
    Calls Try.prog 4 #[.string a, .string b, .string c, .int .i64 k] w fun e w' => e = .returned (.bool (bytesB a b c)) ∧ w' = w := by
  unfold maxLen at ha hb hc
  go_enter Try.func4, Try.ntmps4
  go_wp2
  all_goals
    go_ret
    refine ⟨ret_bool ?_, rfl⟩
    unfold bytesB
    symm
    first
      | (rw [decide_eq_true_iff]; omega)
      | (rw [decide_eq_false_iff_not]; omega)

end Go.Proofs.Qxb6627684a
