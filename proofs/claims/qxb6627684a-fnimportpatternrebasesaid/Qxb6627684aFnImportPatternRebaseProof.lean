/-
  THE SHELL OF A PROOF OF 'Rows.FnImportPatternRebaseSaid' ('example.com/loadstone/loadstone/zzlaws_internal_pattern_b1.FnImportPatternRebase'), WRITTEN BY PROGRAM (proof-skeleton.mjs) off the guide's own print for that function. Not trusted: Lean checks it.
  The hole is filled: 'walk'. All else is the guide's template.
-/
import Derived.Test.Qxb6627684aRows
import Derived.Test.Qxb6627684aMain
import Derived.WalkKit
import Derived.ProofKit
import Derived.OpenShut
import Derived.ShutString
namespace Go.Proofs.Qxb6627684a.fnImportPatternRebase
open Go.ChangeShapes Go.WideShapes Go.ChangeAt Go.RowKit
open Go.ChangeMaps (open_string shut_string)
set_option linter.unusedVariables false      -- a walk need not use every 'w<i>' (that an integer argument fits its kind)

theorem byte47 (b : UInt8) (h : (b.toNat : Int) = 47) : b = 47 := UInt8.toNat_inj.1 (by rw [show (47 : UInt8).toNat = 47 from rfl]; omega)

theorem own : ownKnob Try.prog.godebug = none := by kernel_rfl

/-! ### STEP 1: THE WALK: the Go text returns true. 'Grown w w'': the world has at most new blocks (Derived/RowKit3.lean). Part the cases AHEAD of 'go_enter' where a test parts the walk; take each callee by a contract of your own. -/
theorem walk (a0 : ByteArray) (a1 : ByteArray) (a2 : ByteArray) (a3 : Int) (w0 : a0.size ≤ maxLen) (w1 : a1.size ≤ maxLen) (w2 : a2.size ≤ maxLen) (w3 : (Lit.int .i64 a3).wf = true) (w : World) :
    Calls Try.prog 3 #[.string a0, .string a1, .string a2, .int .i64 a3] w fun e w' => e = .returned (.bool true) ∧ Grown w w' := by
  have w3' := bounds_i64 w3
  have hs := Lib.size_eq a0
  cases hB : bytesB a0 a1 a2 with
  | false => exact early1 a0 a1 a2 a3 w w0 w1 w2 hB
  | true =>
  by_cases h1 : a0.size ≤ 262144
  case neg => exact early2 a0 a1 a2 a3 w w0 w1 w2 hB (.inl (by omega))
  by_cases h2 : a1.size ≤ 262144
  case neg => exact early2 a0 a1 a2 a3 w w0 w1 w2 hB (.inr (.inl ⟨h1, by omega⟩))
  by_cases h3 : a2.size ≤ 262144
  case neg => exact early2 a0 a1 a2 a3 w w0 w1 w2 hB (.inr (.inr ⟨h1, h2, by omega⟩))
  cases hpre : preB a0 a1 with
  | false => exact early3 a0 a1 a2 a3 w h1 h2 h3 hB (.inl hpre)
  | true =>
  by_cases h4 : (a1.size : Int) ≤ a3
  case neg => exact early3 a0 a1 a2 a3 w h1 h2 h3 hB (.inr (.inl ⟨hpre, by omega⟩))
  by_cases h5 : a3 ≤ (a0.size : Int)
  case neg => exact early3 a0 a1 a2 a3 w h1 h2 h3 hB (.inr (.inr ⟨hpre, h4, by omega⟩))
  obtain ⟨k, rfl⟩ := Int.eq_ofNat_of_zero_le (show 0 ≤ a3 by omega)
  have h4' : a1.size ≤ k := by omega
  have h5' : k ≤ a0.size := by omega
  have hat : ((impPat a0 a0 a2).toList == a2.toList) = true := by
    rw [Lib.toList_data, Lib.toList_data, rebase_all]; exact beq_self_eq_true _
  have hdrop : (a0.extract a1.size a0.size).toList = a0.data.toList.drop a1.size := by
    rw [Lib.extract_toList, List.take_of_length_le (by rw [List.length_drop, hs]; exact Nat.le_refl _)]
  have hshape : ((a0.extract a1.size a0.size).toList.isEmpty = true ∧ ((impPat a0 a1 a2).toList == a2.toList) = true)
      ∨ ((a0.extract a1.size a0.size).toList.isEmpty = false ∧ ((a0.extract a1.size a0.size).toList == [47]) = true ∧ ((impPat a0 a1 a2).toList == a2.toList) = true)
      ∨ ((a0.extract a1.size a0.size).toList.isEmpty = false ∧ ((a0.extract a1.size a0.size).toList == [47]) = false ∧ a2.size < (impPat a0 a1 a2).size ∧ preB (impPat a0 a1 a2) a2 = true) := by
    rw [hdrop]
    by_cases e1 : a0.data.toList.drop a1.size = []
    · left
      refine ⟨by rw [e1]; rfl, ?_⟩
      rw [Lib.toList_data, Lib.toList_data, shape_no a0 a1 a2 (by rw [e1]; rfl)]; exact beq_self_eq_true _
    · by_cases e2 : a0.data.toList.drop a1.size = [47]
      · right; left
        refine ⟨by rw [e2]; rfl, by rw [e2]; rfl, ?_⟩
        rw [Lib.toList_data, Lib.toList_data, shape_no a0 a1 a2 (by rw [e2]; rfl)]; exact beq_self_eq_true _
      · right; right
        have hne : trimL (a0.data.toList.drop a1.size) ≠ [] := by rw [Ne, trimL_empty]; rintro (c | c); exact e1 c; exact e2 c
        exact ⟨by simpa using e1, by simpa using e2, shape_yes a0 a1 a2 hne⟩
  have hb : ∀ hc : k = a1.size ∨ k = a0.size ∨ (a0.data.toList[k]? = some 47 ∧ k + 1 < a0.size ∧ ¬ (k = a1.size + 1 ∧ a0.data.toList[a1.size]? = some 47)),
      ((impPat a0 (a0.extract 0 k) (impPat (a0.extract 0 k) a1 a2)).toList == (impPat a0 a1 a2).toList) = true := fun hc => by
    rw [Lib.toList_data, Lib.toList_data, rebase a0 a1 a2 k h4' h5' hc]; exact beq_self_eq_true _
  by_cases c1 : k = a1.size
  · exact heart a0 a1 a2 k w h1 h2 h3 hB hpre h4' h5' (.inl (by rw [c1]; exact bne_self_eq_false _)) (hb (.inl c1)) hat hshape
  have c1' : ((k : Int) != (a1.size : Int)) = true := by rw [bne_iff_ne]; omega
  by_cases c2 : k = a0.size
  · exact heart a0 a1 a2 k w h1 h2 h3 hB hpre h4' h5' (.inr (.inl ⟨c1', by rw [c2]; exact bne_self_eq_false _⟩)) (hb (.inr (.inl c2))) hat hshape
  have c2' : ((k : Int) != (a0.size : Int)) = true := by rw [bne_iff_ne]; omega
  have hk : k < a0.size := by omega
  have hj : a1.size < a0.size := by omega
  cases c3 : ((a0[k].toNat : Int) != 47) with
  | true => exact early4 a0 a1 a2 k w h1 h2 h3 hB hpre h4' h5' c1' c2' hk (.inl c3)
  | false =>
  by_cases c4 : k + 1 < a0.size
  case neg => exact early4 a0 a1 a2 k w h1 h2 h3 hB hpre h4' h5' c1' c2' hk (.inr (.inl ⟨c3, by omega⟩))
  have hat47 : a0.data.toList[k]? = some 47 := by
    rw [data_at a0 k hk, byte47 a0[k] (by simpa using c3)]
  cases c5 : ((k : Int) == (a1.size : Int) + 1) with
  | false =>
    have c5' : ¬ (k : Int) = (a1.size : Int) + 1 := by simpa using c5
    exact heart a0 a1 a2 k w h1 h2 h3 hB hpre h4' h5' (.inr (.inr (.inl ⟨c1', c2', hk, c3, c4, c5⟩))) (hb (.inr (.inr ⟨hat47, c4, fun c => c5' (by omega)⟩))) hat hshape
  | true =>
    cases c6 : ((a0[a1.size].toNat : Int) == 47) with
    | true => exact early4 a0 a1 a2 k w h1 h2 h3 hB hpre h4' h5' c1' c2' hk (.inr (.inr ⟨c3, c4, c5, hj, c6⟩))
    | false =>
      have c6' : ¬ (a0[a1.size].toNat : Int) = 47 := by simpa using c6
      refine heart a0 a1 a2 k w h1 h2 h3 hB hpre h4' h5' (.inr (.inr (.inr ⟨c1', c2', hk, c3, c4, c5, hj, c6⟩))) (hb (.inr (.inr ⟨hat47, c4, fun c => c6' ?_⟩))) hat hshape
      have := c.2
      rw [data_at a0 a1.size hj] at this
      simp at this; rw [this]; rfl

/-! ### THE ROW's STEP: WRITTEN OUT: LEAVE IT -/
set_option maxRecDepth 100000 in
theorem lifted (os : Os) (started : os.Started) (H : Type) (enc : TypeId × Value → H) :
    ReturnsInHanded {} Try.checked os 3 .any (Rows.fnImportPatternRebaseSpec.pre6 enc Try.prog Try.f3 Rows.fnImportPatternRebaseRow.domain false) (Rows.fnImportPatternRebaseSpec.post enc Try.prog Try.f3 false true false false) := by
  refine returnsInHanded_of_change (C := Try.checked) own started (by kernel_rfl) Try.func3
    (ChangeSpec.witness6 (enc := enc) (C := Try.checked) false ⟨#[], #[.string ByteArray.empty, .string ByteArray.empty, .string ByteArray.empty, .int .i64 0], []⟩ 8 (by kernel_rfl) (by kernel_rfl) (by kernel_rfl) (by kernel_rfl)) ?_
  intro W base args ds gs before hval0 hW hcnd _
  have hval : ∀ (j : Nat) t v, Try.f3.params[j]? = some t → args[j]? = some v → Value.okWide Try.prog W .any base t v := hval0
  have hW' := hW
  obtain ⟨p, q, hA0, hV, rfl, hfz, hnd⟩ := hW
  have hA : DataW.TrodAll enc Try.prog W 0 (fun _ => true) true Try.f3.params.toList args.toList ds p := hA0
  rw [Try.params3] at hA hval
  obtain ⟨v0, vs0, d0, ds0, p0, q0, hargs, rfl, rfl, h0, r0⟩ := trodAll_cons hA
  obtain ⟨v1, vs1, d1, ds1, p1, q1, rfl, rfl, rfl, h1, r1⟩ := trodAll_cons r0
  obtain ⟨v2, vs2, d2, ds2, p2, q2, rfl, rfl, rfl, h2, r2⟩ := trodAll_cons r1
  obtain ⟨v3, vs3, d3, ds3, p3, q3, rfl, rfl, rfl, h3, r3⟩ := trodAll_cons r2
  obtain ⟨rfl, rfl, rfl⟩ := trodAll_nil r3
  obtain rfl : args = #[v0, v1, v2, v3] := by cases args; simp_all
  obtain ⟨rfl, rfl⟩ := trodVars_none hV
  obtain ⟨a0, rfl, rfl, rfl, w0⟩ := open_string Try.underlying9 (hval 0 9 v0 rfl rfl) h0
  obtain ⟨a1, rfl, rfl, rfl, w1⟩ := open_string Try.underlying9 (hval 1 9 v1 rfl rfl) h1
  obtain ⟨a2, rfl, rfl, rfl, w2⟩ := open_string Try.underlying9 (hval 2 9 v2 rfl rfl) h2
  obtain ⟨a3, rfl, rfl, rfl, w3⟩ := open_int Try.underlying3 (hval 3 3 v3 rfl rfl) h3
  clear hA0 hval0
  simp only [List.append_nil] at hW'
  refine (walk a0 a1 a2 a3 w0 w1 w2 w3 W).mono fun e W' ⟨he, hg⟩ => ?_
  subst he
  exact ⟨_, rfl, post_of_same (pa := []) (pv := []) hW' (fun _ _ _ => (trodAll_cons_mk (shut_bool Try.underlying4 _) trodAll_mk0)) (fun sp _ => (trodAll_cons_mk (shut_string Try.underlying9 w0) (trodAll_cons_mk (shut_string Try.underlying9 w1) (trodAll_cons_mk (shut_string Try.underlying9 w2) (trodAll_cons_mk (shut_int Try.underlying3 w3) trodAll_mk0))))) (fun _ _ => rfl) rfl
    (hg.frame _) hg.2.1 (ok_one (by kernel_rfl) rfl (okWide_bool_mk Try.underlying4 _))⟩

theorem over : Rows.fnImportPatternRebaseRow.holds Try.pinned (OpenSpec.ofChange Rows.fnImportPatternRebaseSpec) :=
  OpenClaim.holds_of_wide 3 Try.f3 rfl rfl rfl rfl rfl rfl rfl ⟨rfl, rfl, rfl, rfl, rfl⟩ rfl rfl rfl rfl rfl (by kernel_rfl) Try.func3 (by kernel_rfl)
    (of_decide_eq_true (by kernel_rfl)) (by unfold Func.isWrapper; first | (rw [if_pos (by decide +kernel)]; kernel_rfl) | (rw [if_neg (by decide +kernel)]; exact ⟨rfl, rfl⟩))
    (fun os started H enc _ => lifted os started H enc)

/-- ████ THE STATEMENT ████ -/
theorem proved : Rows.FnImportPatternRebaseSaid :=
  over
#print axioms proved
end Go.Proofs.Qxb6627684a.fnImportPatternRebase
