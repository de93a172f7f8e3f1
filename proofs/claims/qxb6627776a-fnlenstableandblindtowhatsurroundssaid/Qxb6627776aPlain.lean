namespace Go.Proofs.Qxb6627776a

/-! PLAIN MATHEMATICS: the scanner of 'Len' as a function on the bytes that are left, and what the parser's pieces do to it. -/
def wsB (c : Int) : Bool := c == 32 || c == 9 || c == 13 || c == 10
def bump (n d : Int) : Int := if d = 1 ∧ n = 0 then 1 else n

/-- mode 0: between tokens · 1: inside a string · 2 and more: behind a backslash. 'n': the count so far · 'd': the depth. -/
def scan : List Int → Nat → Int → Int → Option Int
  | [], _, _, _ => none
  | c :: r, 0, n, d =>
      if c = 34 then scan r 1 (bump n d) d
      else if c = 123 ∨ c = 91 then scan r 0 (bump n d) (d + 1)
      else if c = 125 ∨ c = 93 then (if d = 1 then some n else scan r 0 n (d - 1))
      else if wsB c = true then scan r 0 n d
      else if c = 44 ∧ d = 1 then scan r 0 (bump n d + 1) d
      else scan r 0 (bump n d) d
  | c :: r, 1, n, d => if c = 34 then scan r 0 n d else if c = 92 then scan r 2 n d else scan r 1 n d
  | _ :: r, _ + 2, n, d => scan r 1 n d

theorem wsB_iff (c : Int) : wsB c = true ↔ c = 32 ∨ c = 9 ∨ c = 13 ∨ c = 10 := by
  unfold wsB; simp [or_assoc]
theorem wsB_no (c : Int) : wsB c = false ↔ ¬ (c = 32 ∨ c = 9 ∨ c = 13 ∨ c = 10) := by
  rw [← wsB_iff]; simp

/-- a byte that ends nothing, opens nothing and is no white space -/
def plB (c : Int) : Bool := !(wsB c) && c != 34 && c != 123 && c != 91 && c != 125 && c != 93 && c != 44
theorem plB_iff (c : Int) : plB c = true ↔ wsB c = false ∧ c ≠ 34 ∧ c ≠ 123 ∧ c ≠ 91 ∧ c ≠ 125 ∧ c ≠ 93 ∧ c ≠ 44 := by
  unfold plB; simp [and_assoc]
theorem plB_of (c : Int) (h : (48 ≤ c ∧ c ≤ 57) ∨ c = 45 ∨ c = 43 ∨ c = 46 ∨ c = 101 ∨ c = 69 ∨ (97 ≤ c ∧ c ≤ 122) ∨ c = 58) : plB c = true := by
  rw [plB_iff, wsB_no]; omega

theorem bump_two (n d : Int) (h : 2 ≤ d) : bump n d = n := by unfold bump; rw [if_neg (by omega)]
theorem bump_pos (n d : Int) (h : n ≠ 0) : bump n d = n := by unfold bump; rw [if_neg (by omega)]
theorem bump_bump (n d : Int) : bump (bump n d) d = bump n d := by
  unfold bump; split
  · rw [if_neg (by omega)]
  · rfl

theorem sc_ws (c : Int) (r : List Int) (n d : Int) (h : wsB c = true) : scan (c :: r) 0 n d = scan r 0 n d := by
  have h' := (wsB_iff c).1 h
  simp only [scan]
  rw [if_neg (by omega), if_neg (by omega), if_neg (by omega), if_pos h]
theorem sc_pl (c : Int) (r : List Int) (n d : Int) (h : plB c = true) : scan (c :: r) 0 n d = scan r 0 (bump n d) d := by
  obtain ⟨h1, h2, h3, h4, h5, h6, h7⟩ := (plB_iff c).1 h
  simp only [scan]
  rw [if_neg h2, if_neg (by omega), if_neg (by omega), if_neg (by rw [h1]; decide), if_neg (by omega)]
theorem sc_quote (r : List Int) (n d : Int) : scan (34 :: r) 0 n d = scan r 1 (bump n d) d := by
  simp only [scan]; rw [if_pos trivial]
theorem sc_open (c : Int) (r : List Int) (n d : Int) (h : c = 123 ∨ c = 91) : scan (c :: r) 0 n d = scan r 0 (bump n d) (d + 1) := by
  simp only [scan]; rw [if_neg (by omega), if_pos h]
theorem sc_close (c : Int) (r : List Int) (n d : Int) (h : c = 125 ∨ c = 93) (hd : d ≠ 1) : scan (c :: r) 0 n d = scan r 0 n (d - 1) := by
  simp only [scan]; rw [if_neg (by omega), if_neg (by omega), if_pos h, if_neg hd]
theorem sc_end (c : Int) (r : List Int) (n : Int) (h : c = 125 ∨ c = 93) : scan (c :: r) 0 n 1 = some n := by
  simp only [scan]; rw [if_neg (by omega), if_neg (by omega), if_pos h, if_pos trivial]
theorem sc_comma1 (r : List Int) (n : Int) : scan (44 :: r) 0 n 1 = scan r 0 (bump n 1 + 1) 1 := by
  simp only [scan]; rw [if_neg (by omega), if_neg (by omega), if_neg (by omega), if_neg (by decide), if_pos (by decide)]
theorem sc_comma2 (r : List Int) (n d : Int) (h : d ≠ 1) : scan (44 :: r) 0 n d = scan r 0 (bump n d) d := by
  simp only [scan]; rw [if_neg (by omega), if_neg (by omega), if_neg (by omega), if_neg (by decide), if_neg (by omega)]
theorem sc_in (c : Int) (r : List Int) (n d : Int) (h : c ≠ 34) (h2 : c ≠ 92) : scan (c :: r) 1 n d = scan r 1 n d := by
  simp only [scan]; rw [if_neg h, if_neg h2]
theorem sc_inend (r : List Int) (n d : Int) : scan (34 :: r) 1 n d = scan r 0 n d := by
  simp only [scan]; rw [if_pos trivial]
theorem sc_esc (r : List Int) (n d : Int) : scan (92 :: r) 1 n d = scan r 2 n d := by
  simp only [scan]; rw [if_neg (by omega), if_pos trivial]
theorem sc_esc2 (c : Int) (r : List Int) (n d : Int) : scan (c :: r) 2 n d = scan r 1 n d := rfl

/-! segments -/
def seg (D : Nat → Int) (p q : Nat) : List Int := (List.range' p (q - p)).map D
theorem seg_self (D : Nat → Int) (p : Nat) : seg D p p = [] := by unfold seg; simp
theorem seg_cons (D : Nat → Int) (p q : Nat) (h : p < q) : seg D p q = D p :: seg D (p + 1) q := by
  unfold seg
  have e : q - p = (q - (p + 1)) + 1 := by omega
  rw [e, List.range'_succ]; simp
theorem seg_app (D : Nat → Int) (p m q : Nat) (h1 : p ≤ m) (h2 : m ≤ q) : seg D p q = seg D p m ++ seg D m q := by
  unfold seg
  have e : q - p = (m - p) + (q - m) := by omega
  rw [e, ← List.range'_append_1, List.map_append]
  congr 3; omega

/-- from p to q the scanner goes from one state to another, whatever follows -/
def Mv (D : Nat → Int) (p q : Nat) (m : Nat) (n d : Int) (m' : Nat) (n' d' : Int) : Prop :=
  p ≤ q ∧ ∀ rest, scan (seg D p q ++ rest) m n d = scan rest m' n' d'
theorem Mv.refl (D : Nat → Int) (p m : Nat) (n d : Int) : Mv D p p m n d m n d := ⟨Nat.le_refl _, fun r => by rw [seg_self]; rfl⟩
theorem Mv.trans {D : Nat → Int} {p q r : Nat} {m m' m'' : Nat} {n n' n'' d d' d'' : Int} (h : Mv D p q m n d m' n' d') (k : Mv D q r m' n' d' m'' n'' d'') : Mv D p r m n d m'' n'' d'' :=
  ⟨Nat.le_trans h.1 k.1, fun rest => by rw [seg_app D p q r h.1 k.1, List.append_assoc, h.2, k.2]⟩
theorem Mv.one {D : Nat → Int} {p : Nat} {m m' : Nat} {n n' d d' : Int} (h : ∀ rest, scan (D p :: rest) m n d = scan rest m' n' d') : Mv D p (p + 1) m n d m' n' d' :=
  ⟨Nat.le_succ _, fun rest => by rw [seg_cons D p (p + 1) (Nat.lt_succ_self _), seg_self]; exact h rest⟩

/-! white space -/
def SkipR (D : Nat → Int) (len k q : Nat) : Prop := k ≤ q ∧ q ≤ len ∧ (∀ j, k ≤ j → j < q → wsB (D j) = true) ∧ (q < len → wsB (D q) = false)
theorem ws_mv (D : Nat → Int) (k : Nat) : ∀ (t : Nat) (n d : Int), (∀ j, k ≤ j → j < k + t → wsB (D j) = true) → Mv D k (k + t) 0 n d 0 n d := by
  intro t
  induction t with
  | zero => intro n d _; exact Mv.refl D k 0 n d
  | succ t ih =>
    intro n d h
    exact (ih n d (fun j h1 h2 => h j h1 (by omega))).trans (Mv.one fun rest => sc_ws _ rest n d (h (k + t) (by omega) (by omega)))
theorem SkipR.mv {D : Nat → Int} {len k q : Nat} (h : SkipR D len k q) (n d : Int) : Mv D k q 0 n d 0 n d := by
  have := ws_mv D k (q - k) n d (fun j h1 h2 => h.2.2.1 j h1 (by omega))
  rwa [show k + (q - k) = q from by have := h.1; omega] at this
theorem SkipR.unique {D : Nat → Int} {len k q r : Nat} (h : SkipR D len k q) (g : SkipR D len k r) : q = r := by
  rcases Nat.lt_trichotomy q r with c | c | c
  · have h1 := h.2.2.2 (by have := g.2.1; omega)
    have h2 := g.2.2.1 q h.1 c
    rw [h1] at h2; cases h2
  · exact c
  · have h1 := g.2.2.2 (by have := h.2.1; omega)
    have h2 := h.2.2.1 r g.1 c
    rw [h1] at h2; cases h2

/-! a value: whatever the parser takes for one -/
def ValR (D : Nat → Int) (len p q : Nat) : Prop := p < q ∧ q ≤ len ∧ ∀ n d, 1 ≤ d → Mv D p q 0 n d 0 (bump n d) d
theorem pl_mv (D : Nat → Int) (k : Nat) : ∀ (t : Nat) (n d : Int), (∀ j, k ≤ j → j < k + (t + 1) → plB (D j) = true) → Mv D k (k + (t + 1)) 0 n d 0 (bump n d) d := by
  intro t
  induction t with
  | zero => intro n d h; exact Mv.one fun rest => sc_pl _ rest n d (h k (by omega) (by omega))
  | succ t ih =>
    intro n d h
    refine (ih n d (fun j h1 h2 => h j h1 (by omega))).trans (Mv.one fun rest => ?_)
    rw [sc_pl _ rest _ d (h (k + (t + 1)) (by omega) (by omega)), bump_bump]
theorem val_of_plain {D : Nat → Int} {len p q : Nat} (h1 : p < q) (h2 : q ≤ len) (h : ∀ j, p ≤ j → j < q → plB (D j) = true) : ValR D len p q := by
  refine ⟨h1, h2, fun n d _ => ?_⟩
  have := pl_mv D p (q - p - 1) n d (fun j a b => h j a (by omega))
  rwa [show p + (q - p - 1 + 1) = q from by omega] at this

/-! a string -/
def InS (D : Nat → Int) (p q : Nat) : Prop := ∀ n d, Mv D (p + 1) q 1 n d 1 n d
theorem InS.start (D : Nat → Int) (p : Nat) : InS D p (p + 1) := fun n d => Mv.refl D _ _ n d
theorem InS.char {D : Nat → Int} {p q : Nat} (h : InS D p q) (h1 : D q ≠ 34) (h2 : D q ≠ 92) : InS D p (q + 1) :=
  fun n d => (h n d).trans (Mv.one fun rest => sc_in _ rest n d h1 h2)
theorem InS.esc {D : Nat → Int} {p q : Nat} (h : InS D p q) (h1 : D q = 92) : InS D p (q + 2) := fun n d =>
  ((h n d).trans (Mv.one (m' := 2) (n' := n) (d' := d) fun rest => by rw [h1]; exact sc_esc rest n d)).trans (Mv.one fun rest => sc_esc2 _ rest n d)
theorem InS.uni {D : Nat → Int} {p q : Nat} (h : InS D p q) (h1 : D q = 92) (hx : ∀ j, 2 ≤ j → j < 6 → D (q + j) ≠ 34 ∧ D (q + j) ≠ 92) : InS D p (q + 6) := by
  have a := h.esc h1
  have b := a.char (hx 2 (by omega) (by omega)).1 (hx 2 (by omega) (by omega)).2
  have c := b.char (hx 3 (by omega) (by omega)).1 (hx 3 (by omega) (by omega)).2
  have d := c.char (hx 4 (by omega) (by omega)).1 (hx 4 (by omega) (by omega)).2
  exact d.char (hx 5 (by omega) (by omega)).1 (hx 5 (by omega) (by omega)).2
theorem InS.close {D : Nat → Int} {len p q : Nat} (h : InS D p q) (h0 : D p = 34) (h1 : D q = 34) (h2 : q < len) : ValR D len p (q + 1) := by
  refine ⟨by have := (h 0 0).1; omega, by omega, fun n d _ => ?_⟩
  refine ((Mv.one (m' := 1) (n' := bump n d) (d' := d) fun rest => ?_).trans (h _ d)).trans (Mv.one fun rest => ?_)
  · rw [h0]; exact sc_quote rest n d
  · rw [h1]; exact sc_inend rest _ d

/-! an object or an array -/
def ConR (D : Nat → Int) (len p q : Nat) (m : Int) : Prop := ValR D len p q ∧ ∀ rest, scan (seg D p q ++ rest) 0 0 0 = some m
/-- behind the opening bracket at p0, at p, n members read, the next one about to begin -/
def ReadyR (D : Nat → Int) (p0 p : Nat) (n : Int) : Prop :=
  (∃ N, bump N 1 = n + 1 ∧ Mv D (p0 + 1) p 0 0 1 0 N 1) ∧ ∀ N d, 2 ≤ d → Mv D (p0 + 1) p 0 N d 0 N d
/-- n members read, white space passed -/
def AfterR (D : Nat → Int) (p0 p : Nat) (n : Int) : Prop :=
  Mv D (p0 + 1) p 0 0 1 0 n 1 ∧ ∀ N d, 2 ≤ d → Mv D (p0 + 1) p 0 N d 0 N d
theorem ready_start {D : Nat → Int} {len p0 p : Nat} (h : SkipR D len (p0 + 1) p) : ReadyR D p0 p 0 :=
  ⟨⟨0, rfl, h.mv 0 1⟩, fun N d _ => h.mv N d⟩
theorem ready_key {D : Nat → Int} {len p0 p q p1 p2 : Nat} {n : Int} (h : ReadyR D p0 p n) (hs : ValR D len p q) (h1 : SkipR D len q p1) (hc : D p1 = 58) (h2 : SkipR D len (p1 + 1) p2) : ReadyR D p0 p2 n := by
  obtain ⟨⟨N, e, m⟩, B⟩ := h
  refine ⟨⟨bump N 1, by rw [bump_bump, e], ?_⟩, fun N d hd => ?_⟩
  · refine (((m.trans (hs.2.2 N 1 (by omega))).trans (h1.mv _ 1)).trans (Mv.one (m' := 0) (n' := bump N 1) (d' := 1) fun rest => ?_)).trans (h2.mv _ 1)
    rw [hc, sc_pl 58 rest _ 1 (plB_of 58 (by omega)), bump_bump]
  · have hv := hs.2.2 N d (by omega)
    rw [bump_two N d hd] at hv
    refine ((((B N d hd).trans hv).trans (h1.mv _ d)).trans (Mv.one (m' := 0) (n' := N) (d' := d) fun rest => ?_)).trans (h2.mv _ d)
    rw [hc, sc_pl 58 rest _ d (plB_of 58 (by omega)), bump_two N d hd]
theorem after_val {D : Nat → Int} {len p0 p q p1 : Nat} {n : Int} (h : ReadyR D p0 p n) (hv : ValR D len p q) (h1 : SkipR D len q p1) : AfterR D p0 p1 (n + 1) := by
  obtain ⟨⟨N, e, m⟩, B⟩ := h
  refine ⟨?_, fun N d hd => ?_⟩
  · have a := hv.2.2 N 1 (by omega)
    rw [e] at a
    exact (m.trans a).trans (h1.mv _ 1)
  · have a := hv.2.2 N d (by omega)
    rw [bump_two N d hd] at a
    exact ((B N d hd).trans a).trans (h1.mv _ d)
theorem ready_comma {D : Nat → Int} {len p0 p p1 : Nat} {n : Int} (h : AfterR D p0 p n) (hn : 1 ≤ n) (hc : D p = 44) (h1 : SkipR D len (p + 1) p1) : ReadyR D p0 p1 n := by
  obtain ⟨A, B⟩ := h
  refine ⟨⟨n + 1, bump_pos _ _ (by omega), ?_⟩, fun N d hd => ?_⟩
  · refine (A.trans (Mv.one (m' := 0) (n' := n + 1) (d' := 1) fun rest => ?_)).trans (h1.mv _ 1)
    rw [hc, sc_comma1, bump_pos _ _ (by omega)]
  · refine ((B N d hd).trans (Mv.one (m' := 0) (n' := N) (d' := d) fun rest => ?_)).trans (h1.mv _ d)
    rw [hc, sc_comma2 rest N d (by omega), bump_two N d hd]
theorem con_close {D : Nat → Int} {len p0 p : Nat} {n : Int} (h : AfterR D p0 p n) (ho : D p0 = 123 ∨ D p0 = 91) (hc : D p = 125 ∨ D p = 93) (hp : p < len) : ConR D len p0 (p + 1) n := by
  obtain ⟨A, B⟩ := h
  have hle := A.1
  refine ⟨⟨by omega, by omega, fun N d hd => ?_⟩, fun rest => ?_⟩
  · refine ((Mv.one (m' := 0) (n' := bump N d) (d' := d + 1) fun rest => sc_open _ rest N d ho).trans (B _ (d + 1) (by omega))).trans (Mv.one fun rest => ?_)
    rw [sc_close _ rest _ (d + 1) hc (by omega)]
    congr 1; omega
  · rw [seg_cons D p0 (p + 1) (by omega), List.cons_append, sc_open _ _ 0 0 ho]
    have e : bump 0 0 = 0 := rfl
    rw [e, seg_app D (p0 + 1) p (p + 1) hle (by omega), List.append_assoc, show (0 : Int) + 1 = 1 from rfl, A.2, seg_cons D p (p + 1) (by omega), List.cons_append, sc_end _ _ n hc]
theorem con_empty {D : Nat → Int} {len p0 p : Nat} (h : SkipR D len (p0 + 1) p) (ho : D p0 = 123 ∨ D p0 = 91) (hc : D p = 125 ∨ D p = 93) (hp : p < len) : ConR D len p0 (p + 1) 0 :=
  con_close ⟨h.mv 0 1, fun N d _ => h.mv N d⟩ ho hc hp

/-! what 'Len' meets -/
theorem con_whole {D : Nat → Int} {len p q : Nat} {m : Int} (h : ConR D len p q m) : scan (seg D p len) 0 0 0 = some m := by
  rw [seg_app D p q len (by have := h.1.1; omega) h.1.2.1]; exact h.2 _
theorem con_alone {D : Nat → Int} {len p q : Nat} {m : Int} (h : ConR D len p q m) : scan (seg D p q) 0 0 0 = some m := by
  have := h.2 []; rwa [List.append_nil] at this
theorem seg_shift (D : Nat → Int) (s q : Nat) : seg (fun i => D (s + i)) 0 (q - s) = seg D s q := by
  unfold seg
  rw [Nat.sub_zero, List.range'_eq_map_range, List.range'_eq_map_range, List.map_map, List.map_map]
  congr 1
  funext i
  simp
end Go.Proofs.Qxb6627776a
