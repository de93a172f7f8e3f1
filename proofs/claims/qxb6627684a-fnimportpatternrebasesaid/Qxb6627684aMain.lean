import Derived.Test.Qxb6627684aWalks
namespace Go.Proofs.Qxb6627684a
open Go.RowKit

theorem ext_size (pat : ByteArray) (k : Nat) (h1 : k ≤ pat.size) : (pat.extract 0 k).size = k := by rw [ByteArray.size_extract]; omega

set_option maxHeartbeats 6000000 in
/-- the walk of the law's heart: every test on the road is decided by the hypotheses -/
theorem heart (pat root rp : ByteArray) (k : Nat) (w : World) (hp : pat.size ≤ 262144) (hr : root.size ≤ 262144) (hq : rp.size ≤ 262144)
    (hB : bytesB pat root rp = true) (hpre : preB pat root = true) (h0 : root.size ≤ k) (h1 : k ≤ pat.size)
    (hcut : ((k : Int) != (root.size : Int)) = false
      ∨ (((k : Int) != (root.size : Int)) = true ∧ ((k : Int) != (pat.size : Int)) = false)
      ∨ (((k : Int) != (root.size : Int)) = true ∧ ((k : Int) != (pat.size : Int)) = true ∧ ∃ hk : k < pat.size, ((pat[k].toNat : Int) != 47) = false ∧ k + 1 < pat.size ∧ ((k : Int) == (root.size : Int) + 1) = false)
      ∨ (((k : Int) != (root.size : Int)) = true ∧ ((k : Int) != (pat.size : Int)) = true ∧ ∃ hk : k < pat.size, ((pat[k].toNat : Int) != 47) = false ∧ k + 1 < pat.size ∧ ((k : Int) == (root.size : Int) + 1) = true ∧ ∃ hj : root.size < pat.size, ((pat[root.size].toNat : Int) == 47) = false))
    (hb : ((impPat pat (pat.extract 0 k) (impPat (pat.extract 0 k) root rp)).toList == (impPat pat root rp).toList) = true)
    (hat : ((impPat pat pat rp).toList == rp.toList) = true)
    (hshape : ((pat.extract root.size pat.size).toList.isEmpty = true ∧ ((impPat pat root rp).toList == rp.toList) = true)
      ∨ ((pat.extract root.size pat.size).toList.isEmpty = false ∧ ((pat.extract root.size pat.size).toList == [47]) = true ∧ ((impPat pat root rp).toList == rp.toList) = true)
      ∨ ((pat.extract root.size pat.size).toList.isEmpty = false ∧ ((pat.extract root.size pat.size).toList == [47]) = false ∧ rp.size < (impPat pat root rp).size ∧ preB (impPat pat root rp) rp = true)) :
    Calls Try.prog 3 #[.string pat, .string root, .string rp, .int .i64 k] w fun e w' => e = .returned (.bool true) ∧ Grown w w' := by
  have hz1 := imp_size pat root rp (by omega) (by omega)
  have hz2 := imp_size (pat.extract 0 k) root rp (by rw [ext_size pat k h1]; omega) (by omega)
  have E := ext_size pat k h1
  have hx1 : (pat.extract 0 k).size ≤ 1048576 := by omega
  have hx2 : root.size ≤ (pat.extract 0 k).size := by omega
  have hx3 : (pat.extract 0 k).size ≤ pat.size := by omega
  have hx4 : pat.size ≤ 1048576 := by omega
  have hx5 : root.size ≤ pat.size := by omega
  have hx6 : rp.size ≤ 2097154 := by omega
  clear E
  rcases hcut with c1 | ⟨c1, c2⟩ | ⟨c1, c2, hk, c3, c4, c5⟩ | ⟨c1, c2, hk, c3, c4, c5, hj, c6⟩ <;> rcases hshape with ⟨s1, s2⟩ | ⟨s1, s2, s3⟩ | ⟨s1, s2, s3, s4⟩
  all_goals
    go_enter Try.func3, Try.ntmps3
    go_wp2_with (first | (go_at_call 4; refine (bytes4 _ _ _ _ _ (by unfold maxLen; omega) (by unfold maxLen; omega) (by unfold maxLen; omega)).mono ?_; rintro e w' ⟨rfl, rfl⟩) | (go_at_call 5; refine (pre5 _ _ _ (by omega) (by omega)).mono ?_; rintro e w1 ⟨rfl, G1⟩))
    refine (imp6 _ _ _ _ hx4 hx5 hx6).mono ?_
    rintro e w2 ⟨rfl, G2⟩
    go_wp2_with fail
    refine (imp6 _ _ _ _ hx1 hx2 hx6).mono ?_
    rintro e w3 ⟨rfl, G3⟩
    go_wp2_with fail
    refine (imp6 _ _ _ _ hx4 hx3 hz2).mono ?_
    rintro e w4 ⟨rfl, G4⟩
    go_wp2_with fail
    refine (imp6 _ _ _ _ hx4 (Nat.le_refl _) hx6).mono ?_
    rintro e w5 ⟨rfl, G5⟩
    have G := grown_trans (grown_trans (grown_trans (grown_trans G1 G2) G3) G4) G5
    clear G1 G2 G3 G4 G5
    go_wp2_with (go_at_call 5; refine (pre5 _ _ _ (by omega) (by omega)).mono ?_; rintro e w6 ⟨rfl, G6⟩)
    go_ret
    first
      | exact ⟨rfl, G⟩
      | exact ⟨rfl, grown_trans G (by assumption)⟩

/-- the ways that answer true at once -/
theorem early1 (pat root rp : ByteArray) (k : Int) (w : World) (hp : pat.size ≤ maxLen) (hr : root.size ≤ maxLen) (hq : rp.size ≤ maxLen) (hB : bytesB pat root rp = false) :
    Calls Try.prog 3 #[.string pat, .string root, .string rp, .int .i64 k] w fun e w' => e = .returned (.bool true) ∧ Grown w w' := by
  go_enter Try.func3, Try.ntmps3
  go_wp2_with (go_at_call 4; refine (bytes4 _ _ _ _ _ hp hr hq).mono ?_; rintro e w' ⟨rfl, rfl⟩)
  go_ret
  exact ⟨rfl, Grown.refl _⟩
theorem early2 (pat root rp : ByteArray) (k : Int) (w : World) (hp : pat.size ≤ maxLen) (hr : root.size ≤ maxLen) (hq : rp.size ≤ maxLen) (hB : bytesB pat root rp = true)
    (h : 262144 < pat.size ∨ (pat.size ≤ 262144 ∧ 262144 < root.size) ∨ (pat.size ≤ 262144 ∧ root.size ≤ 262144 ∧ 262144 < rp.size)) :
    Calls Try.prog 3 #[.string pat, .string root, .string rp, .int .i64 k] w fun e w' => e = .returned (.bool true) ∧ Grown w w' := by
  rcases h with h | ⟨h1, h⟩ | ⟨h1, h2, h⟩
  all_goals
    go_enter Try.func3, Try.ntmps3
    go_wp2_with (go_at_call 4; refine (bytes4 _ _ _ _ _ hp hr hq).mono ?_; rintro e w' ⟨rfl, rfl⟩)
    go_ret
    exact ⟨rfl, Grown.refl _⟩
theorem early3 (pat root rp : ByteArray) (k : Int) (w : World) (hp : pat.size ≤ 262144) (hr : root.size ≤ 262144) (hq : rp.size ≤ 262144) (hB : bytesB pat root rp = true)
    (h : preB pat root = false ∨ (preB pat root = true ∧ k < root.size) ∨ (preB pat root = true ∧ root.size ≤ k ∧ pat.size < k)) :
    Calls Try.prog 3 #[.string pat, .string root, .string rp, .int .i64 k] w fun e w' => e = .returned (.bool true) ∧ Grown w w' := by
  rcases h with h | ⟨h1, h⟩ | ⟨h1, h2, h⟩
  all_goals
    go_enter Try.func3, Try.ntmps3
    go_wp2_with (first | (go_at_call 4; refine (bytes4 _ _ _ _ _ (by unfold maxLen; omega) (by unfold maxLen; omega) (by unfold maxLen; omega)).mono ?_; rintro e w' ⟨rfl, rfl⟩) | (go_at_call 5; refine (pre5 _ _ _ (by omega) (by omega)).mono ?_; rintro e w1 ⟨rfl, G1⟩))
    go_ret
    exact ⟨rfl, by assumption⟩
theorem early4 (pat root rp : ByteArray) (k : Nat) (w : World) (hp : pat.size ≤ 262144) (hr : root.size ≤ 262144) (hq : rp.size ≤ 262144) (hB : bytesB pat root rp = true)
    (hpre : preB pat root = true) (h0 : root.size ≤ k) (_h1 : k ≤ pat.size) (c1 : ((k : Int) != (root.size : Int)) = true) (c2 : ((k : Int) != (pat.size : Int)) = true) (hk : k < pat.size)
    (h : ((pat[k].toNat : Int) != 47) = true ∨ (((pat[k].toNat : Int) != 47) = false ∧ pat.size ≤ k + 1)
      ∨ (((pat[k].toNat : Int) != 47) = false ∧ k + 1 < pat.size ∧ ((k : Int) == (root.size : Int) + 1) = true ∧ ∃ hj : root.size < pat.size, ((pat[root.size].toNat : Int) == 47) = true)) :
    Calls Try.prog 3 #[.string pat, .string root, .string rp, .int .i64 k] w fun e w' => e = .returned (.bool true) ∧ Grown w w' := by
  rcases h with c3 | ⟨c3, c4⟩ | ⟨c3, c4, c5, hj, c6⟩
  all_goals
    go_enter Try.func3, Try.ntmps3
    go_wp2_with (first | (go_at_call 4; refine (bytes4 _ _ _ _ _ (by unfold maxLen; omega) (by unfold maxLen; omega) (by unfold maxLen; omega)).mono ?_; rintro e w' ⟨rfl, rfl⟩) | (go_at_call 5; refine (pre5 _ _ _ (by omega) (by omega)).mono ?_; rintro e w1 ⟨rfl, G1⟩))
    go_ret
    exact ⟨rfl, by assumption⟩
end Go.Proofs.Qxb6627684a
