import Derived.Lib.Strings
namespace Go.Proofs.Qxb6627684a

/-! plain functions on strings: no Go in sight -/
def hasS (s : ByteArray) : Bool := (s.extract 0 1).toList == [47]
def trimS (s : ByteArray) : ByteArray := if hasS s = true then s.extract 1 s.size else s
def impPat (pat root rp : ByteArray) : ByteArray :=
  if (trimS (pat.extract root.size pat.size)).toList.isEmpty = true then rp
  else if rp.toList.isEmpty = true then trimS (pat.extract root.size pat.size)
  else rp ++ ⟨#[47]⟩ ++ trimS (pat.extract root.size pat.size)
def preB (s p : ByteArray) : Bool := p.data.toList.isPrefixOf s.data.toList

/-! the same on lists -/
def trimL (l : List UInt8) : List UInt8 := if l.head? = some 47 then l.tail else l
def impL (rest rp : List UInt8) : List UInt8 := if trimL rest = [] then rp else if rp = [] then trimL rest else rp ++ 47 :: trimL rest

theorem hasS_iff (s : ByteArray) : hasS s = true ↔ s.data.toList.head? = some 47 := by
  unfold hasS
  rw [Lib.extract_toList]
  cases h : s.data.toList with
  | nil => simp
  | cons a l => simp
theorem hasS_size (s : ByteArray) (h : hasS s = true) : 1 ≤ s.size := by
  rw [hasS_iff] at h
  rw [Lib.size_eq]
  cases e : s.data.toList with
  | nil => rw [e] at h; simp at h
  | cons a l => simp
theorem trimS_list (s : ByteArray) : (trimS s).data.toList = trimL s.data.toList := by
  unfold trimS trimL
  by_cases h : hasS s = true
  · rw [if_pos h, if_pos ((hasS_iff s).1 h), Lib.extract_data]
    rw [Lib.size_eq, List.take_of_length_le (by simp), List.drop_one]
  · rw [if_neg h, if_neg (fun c => h ((hasS_iff s).2 c))]
theorem trimL_len (l : List UInt8) : (trimL l).length ≤ l.length := by
  unfold trimL; split <;> simp
theorem trimS_size (s : ByteArray) : (trimS s).size ≤ s.size := by
  rw [Lib.size_eq, Lib.size_eq, trimS_list]; exact trimL_len _
theorem imp_list (pat root rp : ByteArray) : (impPat pat root rp).data.toList = impL (pat.data.toList.drop root.size) rp.data.toList := by
  have e : (trimS (pat.extract root.size pat.size)).data.toList = trimL (pat.data.toList.drop root.size) := by
    rw [trimS_list, Lib.extract_data, List.take_of_length_le (by rw [List.length_drop, Lib.size_eq pat]; exact Nat.le_refl _)]
  unfold impPat impL
  simp only [Lib.toList_data, List.isEmpty_iff]
  rw [← e]
  by_cases h1 : (trimS (pat.extract root.size pat.size)).data.toList = []
  · rw [if_pos h1, if_pos h1]
  · rw [if_neg h1, if_neg h1]
    by_cases h2 : rp.data.toList = []
    · rw [if_pos h2, if_pos h2]
    · rw [if_neg h2, if_neg h2]; simp
theorem imp_size (pat root rp : ByteArray) (hp : pat.size ≤ 1048576) (hq : rp.size ≤ 1048577) : (impPat pat root rp).size ≤ 2097154 := by
  rw [Lib.size_eq, imp_list]
  rw [Lib.size_eq] at hp hq
  unfold impL
  have := trimL_len (pat.data.toList.drop root.size)
  simp only [List.length_drop] at this
  split
  · omega
  · split
    · omega
    · simp only [List.length_append, List.length_cons]; omega

theorem trimL_two (l : List UInt8) (h : 2 ≤ l.length) : trimL l ≠ [] := by
  unfold trimL
  match l, h with
  | a :: b :: l, _ => split <;> simp
theorem trimL_app (a b : List UInt8) (h : a ≠ []) : trimL (a ++ b) = trimL a ++ b := by
  match a, h with
  | x :: a, _ => unfold trimL; simp only [List.cons_append, List.head?_cons, List.tail_cons]; by_cases e : some x = some (47 : UInt8) <;> simp [e]
theorem trimL_slash (b : List UInt8) : trimL (47 :: b) = b := by unfold trimL; simp
theorem trimL_nil : trimL [] = [] := rfl
theorem trimL_empty (l : List UInt8) : trimL l = [] ↔ l = [] ∨ l = [47] := by
  unfold trimL
  match l with
  | [] => simp
  | [a] => by_cases h : a = 47 <;> simp [h]
  | a :: b :: l => by_cases h : a = 47 <;> simp [h]

/-- the middle cut: pat is root, then mid, a slash, tl -/
theorem rebase_mid (mid tl rp : List UInt8) (h1 : trimL mid ≠ []) (h2 : tl ≠ []) :
    impL (47 :: tl) (impL mid rp) = impL (mid ++ 47 :: tl) rp := by
  have hm : mid ≠ [] := fun e => h1 (by rw [e]; rfl)
  have e3 : trimL (mid ++ 47 :: tl) ≠ [] := by rw [trimL_app _ _ hm]; simp
  have e1 : impL mid rp ≠ [] := by
    unfold impL; rw [if_neg h1]; split
    · exact h1
    · simp
  have e4 : ∀ q : List UInt8, q ≠ [] → impL (47 :: tl) q = q ++ 47 :: tl := fun q hq => by
    unfold impL; rw [trimL_slash, if_neg h2, if_neg hq]
  rw [e4 _ e1]
  unfold impL
  rw [if_neg h1, if_neg e3, trimL_app _ _ hm]
  split
  · rfl
  · simp

theorem impL_nil (rp : List UInt8) : impL [] rp = rp := rfl
theorem impL_shape (rest rp : List UInt8) (h : trimL rest ≠ []) : rp.length < (impL rest rp).length ∧ rp.isPrefixOf (impL rest rp) = true := by
  unfold impL
  rw [if_neg h]
  split
  · next e => subst e; exact ⟨by simpa using List.length_pos_iff.2 h, by simp⟩
  · exact ⟨by simp, by simp⟩

/-- ████ THE PLAIN LAW ████ -/
theorem rebase (pat root rp : ByteArray) (k : Nat) (h0 : root.size ≤ k) (h1 : k ≤ pat.size)
    (hc : k = root.size ∨ k = pat.size ∨ (pat.data.toList[k]? = some 47 ∧ k + 1 < pat.size ∧ ¬ (k = root.size + 1 ∧ pat.data.toList[root.size]? = some 47))) :
    (impPat pat (pat.extract 0 k) (impPat (pat.extract 0 k) root rp)).data.toList = (impPat pat root rp).data.toList := by
  simp only [imp_list]
  have hk : (pat.extract 0 k).size = k := by rw [ByteArray.size_extract]; omega
  have hx : (pat.extract 0 k).data.toList = pat.data.toList.take k := by rw [Lib.extract_data]; simp
  rw [hk, hx]
  have hs : pat.size = pat.data.toList.length := Lib.size_eq pat
  generalize pat.data.toList = l at *
  generalize root.size = r at *
  rcases hc with rfl | hc | ⟨c1, c2, c3⟩
  · rw [List.drop_eq_nil_of_le (as := l.take k) (by simp; omega), impL_nil]
  · have e : k = l.length := by omega
    subst e
    rw [List.drop_length, impL_nil, List.take_length]
  · have ed : l.drop k = 47 :: l.drop (k + 1) := by
      rw [List.drop_eq_getElem_cons (by omega)]
      rw [List.getElem?_eq_getElem (by omega)] at c1
      simp at c1; rw [c1]
    have ew : l.drop r = (l.take k).drop r ++ 47 :: l.drop (k + 1) := by
      rw [← ed, List.drop_take]
      have : l.drop k = (l.drop r).drop (k - r) := by rw [List.drop_drop]; congr 1; omega
      rw [this, List.take_append_drop]
    rw [ed, ew]
    by_cases hr : k = r
    · subst hr
      rw [List.drop_eq_nil_of_le (as := l.take k) (by simp; omega), impL_nil]; rfl
    · apply rebase_mid
      · rw [Ne, trimL_empty]
        rintro (e | e)
        · have := congrArg List.length e; simp at this; omega
        · have e2 := congrArg List.length e; simp at e2
          apply c3
          refine ⟨by omega, ?_⟩
          have e3 := congrArg (fun x => x[0]?) e
          simp at e3
          rw [List.getElem?_take] at e3
          split at e3
          · exact e3
          · cases e3
      · intro e; have := congrArg List.length e; simp at this; omega

theorem rebase_all (pat rp : ByteArray) : (impPat pat pat rp).data.toList = rp.data.toList := by
  rw [imp_list, List.drop_eq_nil_of_le (by rw [Lib.size_eq]; exact Nat.le_refl _), impL_nil]
theorem shape_no (pat root rp : ByteArray) (h : trimL (pat.data.toList.drop root.size) = []) : (impPat pat root rp).data.toList = rp.data.toList := by
  rw [imp_list]; unfold impL; rw [if_pos h]
theorem shape_yes (pat root rp : ByteArray) (h : trimL (pat.data.toList.drop root.size) ≠ []) :
    rp.size < (impPat pat root rp).size ∧ preB (impPat pat root rp) rp = true := by
  have := impL_shape (pat.data.toList.drop root.size) rp.data.toList h
  rw [Lib.size_eq, Lib.size_eq]
  unfold preB
  rw [imp_list]; exact this
end Go.Proofs.Qxb6627684a
