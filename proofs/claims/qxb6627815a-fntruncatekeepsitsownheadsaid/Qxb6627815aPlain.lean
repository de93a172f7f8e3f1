import Derived.Laws.RangeAny
import Derived.Lib.Strings
namespace Go.Proofs.Qxb6627815a

/-! THE TABLE OF WELL-FORMED UTF-8 (Unicode, Table 3-7), on the bytes' numbers -/
def c2 (a b : Nat) : Bool := decide (194 ≤ a ∧ a ≤ 223 ∧ 128 ≤ b ∧ b ≤ 191)
def c3 (a b c : Nat) : Bool := decide (224 ≤ a ∧ a ≤ 239 ∧ 128 ≤ b ∧ b ≤ 191 ∧ (a ≠ 224 ∨ 160 ≤ b) ∧ (a ≠ 237 ∨ b ≤ 159) ∧ 128 ≤ c ∧ c ≤ 191)
def c4 (a b c d : Nat) : Bool := decide (240 ≤ a ∧ a ≤ 244 ∧ 128 ≤ b ∧ b ≤ 191 ∧ (a ≠ 240 ∨ 144 ≤ b) ∧ (a ≠ 244 ∨ b ≤ 143) ∧ 128 ≤ c ∧ c ≤ 191 ∧ 128 ≤ d ∧ d ≤ 191)
theorem c2_iff (a b : Nat) : c2 a b = true ↔ 194 ≤ a ∧ a ≤ 223 ∧ 128 ≤ b ∧ b ≤ 191 := decide_eq_true_iff
theorem c3_iff (a b c : Nat) : c3 a b c = true ↔ 224 ≤ a ∧ a ≤ 239 ∧ 128 ≤ b ∧ b ≤ 191 ∧ (a ≠ 224 ∨ 160 ≤ b) ∧ (a ≠ 237 ∨ b ≤ 159) ∧ 128 ≤ c ∧ c ≤ 191 := decide_eq_true_iff
theorem c4_iff (a b c d : Nat) : c4 a b c d = true ↔ 240 ≤ a ∧ a ≤ 244 ∧ 128 ≤ b ∧ b ≤ 191 ∧ (a ≠ 240 ∨ 144 ≤ b) ∧ (a ≠ 244 ∨ b ≤ 143) ∧ 128 ≤ c ∧ c ≤ 191 ∧ 128 ≤ d ∧ d ≤ 191 := decide_eq_true_iff
/-- the width of the character at the head -/
def wl : List UInt8 → Nat
  | a :: b :: c :: d :: _ => if c4 a.toNat b.toNat c.toNat d.toNat = true then 4 else if c3 a.toNat b.toNat c.toNat = true then 3 else if c2 a.toNat b.toNat = true then 2 else 1
  | [a, b, c] => if c3 a.toNat b.toNat c.toNat = true then 3 else if c2 a.toNat b.toNat = true then 2 else 1
  | [a, b] => if c2 a.toNat b.toNat = true then 2 else 1
  | [_] => 1
  | [] => 1
theorem wl_pos (l : List UInt8) : 1 ≤ wl l := by
  unfold wl; split <;> repeat' split
  all_goals omega
theorem wl_le (l : List UInt8) (h : l ≠ []) : wl l ≤ l.length := by
  match l, h with
  | [a], _ => simp [wl]
  | [a, b], _ => simp only [wl, List.length_cons, List.length_nil]; split <;> omega
  | [a, b, c], _ => simp only [wl, List.length_cons, List.length_nil]; repeat' split
                    all_goals omega
  | a :: b :: c :: d :: t, _ => simp only [wl, List.length_cons]; repeat' split
                                all_goals omega
/-- a prefix that holds the whole character shows the same character -/
theorem wl_take (l : List UInt8) (n : Nat) (h : l ≠ []) (hn : wl l ≤ n) : wl (l.take n) = wl l := by
  have h1 := wl_pos l
  match l, h, n, hn with
  | [a], _, n + 1, _ => simp
  | [a, b], _, 1, hn => simp only [wl] at hn ⊢; split at hn <;> simp_all [wl]
  | [a, b], _, n + 2, _ => simp
  | [a, b, c], _, 1, hn => simp only [wl] at hn ⊢; repeat' split at hn
                           all_goals simp_all [wl]
  | [a, b, c], _, 2, hn => simp only [wl] at hn ⊢; repeat' split at hn
                           all_goals simp_all [wl]
  | [a, b, c], _, n + 3, _ => simp
  | a :: b :: c :: d :: t, _, 1, hn => simp only [wl] at hn ⊢; repeat' split at hn
                                       all_goals simp_all [wl]
  | a :: b :: c :: d :: t, _, 2, hn => simp only [wl] at hn ⊢; repeat' split at hn
                                       all_goals simp_all [wl]
  | a :: b :: c :: d :: t, _, 3, hn => simp only [wl] at hn ⊢; repeat' split at hn
                                       all_goals simp_all [wl]
  | a :: b :: c :: d :: t, _, n + 4, _ => simp [wl]
  | _, _, 0, hn => omega

/-! the place behind the first n characters -/
def offL : Nat → List UInt8 → Nat
  | 0, _ => 0
  | _ + 1, [] => 0
  | n + 1, a :: l => wl (a :: l) + offL n ((a :: l).drop (wl (a :: l)))
theorem offL_nil (n : Nat) : offL n [] = 0 := by cases n <;> rfl
theorem offL_succ (n : Nat) (l : List UInt8) (h : l ≠ []) : offL (n + 1) l = wl l + offL n (l.drop (wl l)) := by
  cases l with
  | nil => exact absurd rfl h
  | cons a l => rfl
theorem offL_le (n : Nat) : ∀ l, offL n l ≤ l.length := by
  induction n with
  | zero => intro l; exact Nat.zero_le _
  | succ n ih =>
    intro l
    by_cases h : l = []
    · subst h; simp [offL]
    · rw [offL_succ n l h]
      have h1 := wl_le l h
      have h2 := ih (l.drop (wl l))
      rw [List.length_drop] at h2
      omega
theorem offL_add (n m : Nat) : ∀ l, offL (n + m) l = offL n l + offL m (l.drop (offL n l)) := by
  induction n with
  | zero => intro l; rw [Nat.zero_add]; simp [offL]
  | succ n ih =>
    intro l
    by_cases h : l = []
    · subst h; simp [offL_nil]
    · rw [show n + 1 + m = (n + m) + 1 from by omega, offL_succ _ l h, offL_succ n l h, ih, List.drop_drop]
      omega
theorem offL_one (l : List UInt8) (h : l ≠ []) : offL 1 l = wl l := by rw [offL_succ 0 l h]; simp [offL]
theorem offL_step (n : Nat) (l : List UInt8) (h : offL n l < l.length) : offL (n + 1) l = offL n l + wl (l.drop (offL n l)) := by
  rw [offL_add n 1 l, offL_one _ (by intro c; have := congrArg List.length c; simp at this; omega)]
theorem offL_full (n m : Nat) (l : List UInt8) (h : offL n l = l.length) (hm : n ≤ m) : offL m l = l.length := by
  have e := offL_add n (m - n) l
  rw [show n + (m - n) = m from by omega] at e
  have := offL_le m l
  omega
theorem offL_lt (n m : Nat) (l : List UInt8) (h : offL n l < l.length) (hm : n < m) : offL n l < offL m l := by
  have e := offL_add (n + 1) (m - (n + 1)) l
  rw [show n + 1 + (m - (n + 1)) = m from by omega, offL_step n l h] at e
  have := wl_pos (l.drop (offL n l))
  omega
theorem offL_ge (n : Nat) (l : List UInt8) (h : offL n l < l.length) : n ≤ offL n l := by
  induction n with
  | zero => exact Nat.zero_le _
  | succ n ih =>
    have h1 : offL n l < l.length := by
      rcases Nat.lt_or_ge (offL n l) l.length with c | c
      · exact c
      · have := offL_full n (n + 1) l (by have := offL_le n l; omega) (by omega); omega
    rw [offL_step n l h1] at h ⊢
    have := wl_pos (l.drop (offL n l))
    have := ih h1
    omega
/-- cutting behind n characters leaves the first n characters as they were -/
theorem offL_take (n k : Nat) (hk : k ≤ n) : ∀ l, offL k (l.take (offL n l)) = offL k l := by
  induction k generalizing n with
  | zero => intro l; rfl
  | succ k ih =>
    intro l
    obtain ⟨n, rfl⟩ : ∃ m, n = m + 1 := ⟨n - 1, by omega⟩
    by_cases h : l = []
    · subst h; simp [offL_nil]
    · have hw := wl_le l h
      have hp := wl_pos l
      rw [offL_succ n l h]
      have hne : l.take (wl l + offL n (l.drop (wl l))) ≠ [] := by
        intro c; have := congrArg List.length c
        rw [List.length_take] at this; simp only [List.length_nil] at this; omega
      rw [offL_succ k _ hne, wl_take l _ h (by omega), List.drop_take, offL_succ k l h]
      rw [show wl l + offL n (l.drop (wl l)) - wl l = offL n (l.drop (wl l)) from by omega]
      rw [ih n (by omega)]

/-! how many characters -/
def cntF : Nat → List UInt8 → Nat
  | 0, _ => 0
  | _ + 1, [] => 0
  | f + 1, a :: l => 1 + cntF f ((a :: l).drop (wl (a :: l)))
def cntL (l : List UInt8) : Nat := cntF l.length l
theorem cntF_iff (f : Nat) : ∀ (l : List UInt8) (k : Nat), l.length ≤ f → (k < cntF f l ↔ offL k l < l.length) := by
  induction f with
  | zero =>
    intro l k h
    have e : l = [] := List.length_eq_zero_iff.1 (by omega)
    subst e; simp [cntF]
  | succ f ih =>
    intro l k h
    cases l with
    | nil => simp [cntF]
    | cons a l =>
      have hw := wl_le (a :: l) (by simp)
      have hp := wl_pos (a :: l)
      simp only [cntF]
      cases k with
      | zero => simp [offL]; omega
      | succ k =>
        have := ih ((a :: l).drop (wl (a :: l))) k (by rw [List.length_drop]; omega)
        rw [List.length_drop] at this
        rw [offL_succ k _ (by simp)]
        omega
theorem cnt_iff (l : List UInt8) (k : Nat) : k < cntL l ↔ offL k l < l.length := cntF_iff l.length l k (Nat.le_refl _)
theorem cnt_le (l : List UInt8) : cntL l ≤ l.length := by
  rcases Nat.lt_or_ge l.length (cntL l) with c | c
  · have h := (cnt_iff l l.length).1 c
    have := offL_ge _ l h
    omega
  · exact c
theorem cnt_is (l : List UInt8) (k : Nat) (h : offL k l < l.length → False) (h' : k = 0 ∨ offL (k - 1) l < l.length) : cntL l = k := by
  have h1 : ¬ k < cntL l := fun c => h ((cnt_iff l k).1 c)
  rcases h' with rfl | h'
  · omega
  · have := (cnt_iff l (k - 1)).2 h'
    omega
theorem cnt_take (l : List UInt8) (n : Nat) : cntL (l.take (offL n l)) = min n (cntL l) := by
  have hl : (l.take (offL n l)).length = offL n l := by rw [List.length_take]; have := offL_le n l; omega
  have key : ∀ k, k < cntL (l.take (offL n l)) ↔ k < n ∧ k < cntL l := by
    intro k
    rw [cnt_iff, hl, cnt_iff]
    by_cases hk : k < n
    · rw [offL_take n k (by omega)]
      constructor
      · intro h; exact ⟨hk, by have := offL_le n l; omega⟩
      · intro h; exact offL_lt k n l h.2 hk
    · constructor
      · intro h
        exfalso
        have e : offL n (l.take (offL n l)) = (l.take (offL n l)).length := by rw [offL_take n n (Nat.le_refl _), hl]
        have := offL_full n k _ e (by omega)
        omega
      · intro h; omega
  have a := key (cntL (l.take (offL n l)))
  have b := key (min n (cntL l))
  omega

/-! the model's own decoder -/
theorem list_at (s : ByteArray) (i k : Nat) (h : i + k < s.size) : (s.data.toList.drop i)[k]? = some s[i + k] := by
  rw [List.getElem?_drop, List.getElem?_eq_getElem (by rw [← Lib.size_eq]; exact h)]; rfl
theorem drop1 (s : ByteArray) (i : Nat) (h : i < s.size) : s.data.toList.drop i = s[i] :: s.data.toList.drop (i + 1) := by
  rw [List.drop_eq_getElem_cons (by rw [← Lib.size_eq]; exact h)]; rfl
theorem dropN (s : ByteArray) (i : Nat) (h : s.size ≤ i) : s.data.toList.drop i = [] := List.drop_eq_nil_of_le (by rw [← Lib.size_eq]; exact h)
theorem wl_of4 (s : ByteArray) (i : Nat) (h : i + 3 < s.size) : wl (s.data.toList.drop i) = if c4 s[i].toNat s[i + 1].toNat s[i + 2].toNat s[i + 3].toNat = true then 4 else if c3 s[i].toNat s[i + 1].toNat s[i + 2].toNat = true then 3 else if c2 s[i].toNat s[i + 1].toNat = true then 2 else 1 := by
  rw [drop1 s i (by omega), drop1 s (i + 1) (by omega), drop1 s (i + 2) (by omega), drop1 s (i + 3) (by omega)]; rfl
theorem wl_of3 (s : ByteArray) (i : Nat) (h : i + 2 < s.size) (h' : s.size ≤ i + 3) : wl (s.data.toList.drop i) = if c3 s[i].toNat s[i + 1].toNat s[i + 2].toNat = true then 3 else if c2 s[i].toNat s[i + 1].toNat = true then 2 else 1 := by
  rw [drop1 s i (by omega), drop1 s (i + 1) (by omega), drop1 s (i + 2) (by omega), dropN s (i + 2 + 1) (by omega)]; rfl
theorem wl_of2 (s : ByteArray) (i : Nat) (h : i + 1 < s.size) (h' : s.size ≤ i + 2) : wl (s.data.toList.drop i) = if c2 s[i].toNat s[i + 1].toNat = true then 2 else 1 := by
  rw [drop1 s i (by omega), drop1 s (i + 1) (by omega), dropN s (i + 1 + 1) (by omega)]; rfl
theorem wl_of1 (s : ByteArray) (i : Nat) (h : i < s.size) (h' : s.size ≤ i + 1) : wl (s.data.toList.drop i) = 1 := by
  rw [drop1 s i (by omega), dropN s (i + 1) (by omega)]; rfl
end Go.Proofs.Qxb6627815a
