import Derived.Test.Qxb6627776aClone
namespace Go.Proofs.Qxb6627776a
open Go.RowKit

theorem Reader.new {D : Nat → Int} {b off len : Nat} {w : World} (h : Rd D b off len w) (hb : b < w.heap.size) (cap k : Nat) :
    Reader D b off len cap w.heap.size k (w.alloc (.cells #[.slice (some ⟨b, off, none⟩) len cap, .int .i64 k] 36)) := by
  refine ⟨hb, by simp, by simp, by simp, ?_, fun i hi => ?_⟩
  · simp [go_sem]
  · rw [World.cell?_alloc_lt _ _ _ (by exact hb)]; exact h i hi
theorem rd_below {D : Nat → Int} {b off len B : Nat} {w w' : World} (h : Rd D b off len w) (hb : b < B) (k : Below B w w') : Rd D b off len w' := fun i hi => by
  rw [k.cell (p := ⟨b, off + i, none⟩) hb]; exact h i hi
theorem dr_below {B : Nat} {a w w' : World} (h : Below B a w) (k : Dr w w') : Below B a w' := by
  obtain ⟨n, rfl⟩ := k; exact below_drewN h n
theorem dr_size {w w' : World} (k : Dr w w') : w'.heap.size = w.heap.size := by
  obtain ⟨n, rfl⟩ := k; rfl

/-- the ways that answer true at once -/
theorem lawA_long (a : Option Addr) (len cap : Nat) (k : Int) (w : World) (h : len ≤ maxLen) (hB : bytesB len = false) :
    Calls Try.prog 3 #[.slice a len cap, .int .i64 k] w fun e w' => e = .returned (.bool true) ∧ Below w.heap.size w w' := by
  go_enter Try.func3, Try.ntmps3
  go_wp2_with (go_at_call 5; refine (bytes5 _ _ _ _ _ h).mono ?_; rintro e w' ⟨rfl, rfl⟩)
  go_ret
  exact ⟨rfl, Below.refl _ _⟩
theorem lawA_out (a : Option Addr) (len cap : Nat) (k : Int) (w : World) (hl : len ≤ 1048576) (hB : bytesB len = true) (hk : k < 0 ∨ (0 ≤ k ∧ (len : Int) < k)) :
    Calls Try.prog 3 #[.slice a len cap, .int .i64 k] w fun e w' => e = .returned (.bool true) ∧ Below w.heap.size w w' := by
  rcases hk with hk | ⟨hk0, hk⟩
  all_goals
    go_enter Try.func3, Try.ntmps3
    go_wp2_with (go_at_call 5; refine (bytes5 _ _ _ _ _ (by unfold maxLen; omega)).mono ?_; rintro e w' ⟨rfl, rfl⟩)
    go_ret
    exact ⟨rfl, Below.refl _ _⟩
theorem lawA_nil (w : World) :
    Calls Try.prog 3 #[.slice none 0 0, .int .i64 0] w fun e w' => e = .returned (.bool true) ∧ Below w.heap.size w w' := by
  have hB : bytesB 0 = true := rfl
  go_enter Try.func3, Try.ntmps3
  go_wp2_with (first | (go_at_call 5; refine (bytes5 _ _ _ _ _ (by decide)).mono ?_; rintro e w' ⟨rfl, rfl⟩) | (go_at_call 6; refine (clone6n _).mono ?_; rintro e w' ⟨rfl, rfl⟩) | (go_at_call 7; refine (skip0 _ _ _).mono ?_; rintro e w' ⟨rfl, rfl⟩))
  go_ret
  exact ⟨rfl, Below.refl _ _⟩
theorem lawA_empty (x : Addr) (cap : Nat) (w : World) :
    Calls Try.prog 3 #[.slice (some x) 0 cap, .int .i64 0] w fun e w' => e = .returned (.bool true) ∧ Below w.heap.size w w' := by
  have hB : bytesB 0 = true := rfl
  go_enter Try.func3, Try.ntmps3
  go_wp2_with (first | (go_at_call 5; refine (bytes5 _ _ _ _ _ (by decide)).mono ?_; rintro e w' ⟨rfl, rfl⟩) | (go_at_call 6; refine (clone6e _ _ _).mono ?_; rintro e w' ⟨rfl, hb⟩) | (go_at_call 7; refine (skip0 _ _ _).mono ?_; rintro e w'' ⟨rfl, rfl⟩))
  go_ret
  exact ⟨rfl, by assumption⟩

set_option maxRecDepth 100000 in
theorem lawA_heart (D : Nat → Int) (b off len cap k : Nat) (w : World) (hl : len ≤ 1048576) (hk : k ≤ len) (hb : b < w.heap.size) (hr : Rd D b off len w) :
    Calls Try.prog 3 #[.slice (some ⟨b, off, none⟩) len cap, .int .i64 k] w fun e w' => e = .returned (.bool true) ∧ Below w.heap.size w w' := by
  have hr' : Hid (Rd D b off len w) := hr
  clear hr
  have hB : bytesB len = true := by unfold bytesB; simpa using hl
  go_enter Try.func3, Try.ntmps3
  go_wp2_with (go_at_call 5; refine (bytes5 _ _ _ _ _ (by unfold maxLen; omega)).mono ?_; rintro e w' ⟨rfl, rfl⟩)
  refine (clone6 D b off len cap w hl hb (by exact hr'.out)).mono ?_
  rintro e w1 ⟨rfl, h1, h2, h3⟩
  have R1 : Hid (Rd D w.heap.size 0 len w1) := h1
  have G1 : Hid (Below w.heap.size w w1) := h3
  clear h1 h3
  go_wp2_with fail
  refine (skip D w.heap.size 0 len len k _ rfl w1 (by exact R1.out) hl hk).mono ?_
  rintro e w1' ⟨⟨s, rfl, hs⟩, hw⟩
  subst hw
  have S : Hid (SkipR D len k s) := hs
  have s1 : k ≤ s := hs.1
  have s2 : s ≤ len := hs.2.1
  clear hs
  by_cases hs : s < len
  · have hne : ((s : Int) == (len : Int)) = false := beq_eq_false_iff_ne.2 (by omega)
    have hcd := R1.out s hs
    rw [Nat.zero_add] at hcd
    rcases tests D s 123 91 with ⟨B, b1⟩ | ⟨B, b1, b1'⟩ | ⟨b1, b1'⟩
    rotate_left 2
    · have W : Hid (Want D len s 0) := .inr ⟨by rw [bne_iff_ne]; exact beq_eq_false_iff_ne.1 b1, by rw [bne_iff_ne]; exact beq_eq_false_iff_ne.1 b1', rfl⟩
      go_wp2_with fail
      refine (new9 _ _ _ _ _).mono ?_
      rintro e w3 ⟨rfl, hw⟩
      have RN : Hid (Reader D w.heap.size 0 len len w1.heap.size k w3) := by rw [← hw]; exact Reader.new R1.out h2 len k
      have G3 : Hid (Below w.heap.size w w3) := by rw [← hw]; exact G1.out.alloc (by omega) _
      clear hw hcd
      go_wp2_with fail
      refine (len10 D _ _ _ _ _ k s 0 _ hl (by exact S.out) hs (by exact RN.out) (by exact W.out)).mono ?_
      rintro e w4 ⟨rfl, h4, h5⟩
      have hoff := h4.2.2.2.1
      have G4 : Hid (Below w.heap.size w w4) := G3.out.trans (h5.mono (by omega))
      clear h4 h5
      go_wp2_with (go_at_call 11; refine (offset11 _ _ _ (by exact hoff)).mono ?_; rintro e w5 ⟨rfl, rfl⟩)
      go_ret
      exact ⟨rfl, G4.out⟩
    all_goals
      go_wp2_with fail
      refine (con8 D w.heap.size 0 len len s hl hs (by have := B.out; omega) w1 (by exact R1.out)).mono ?_
      rintro e w2 ⟨⟨n, q, ok, rfl, hq1, hn1, hq2⟩, hd⟩
      have Q : Hid (ok = true → ConR D len s q n) := hq2
      have DD : Hid (Dr w1 w2) := hd
      have hsz : w1.heap.size ≤ w2.heap.size := Nat.le_of_eq (dr_size hd).symm
      have R2 : Hid (Rd D w.heap.size 0 len w2) := hd.rd R1.out
      have G2 : Hid (Below w.heap.size w w2) := dr_below G1.out hd
      clear hq2 hd
      cases ok with
      | false =>
        go_wp2_with fail
        go_ret
        exact ⟨rfl, G2.out⟩
      | true =>
        have W : Hid (Want D len s n) := .inl ⟨by have := B.out; first | (left; rw [this]; rfl) | (right; rw [this]; exact ⟨rfl, rfl⟩), con_whole (Q.out rfl)⟩
        go_wp2_with fail
        refine (new9 _ _ _ _ _).mono ?_
        rintro e w3 ⟨rfl, hw⟩
        have RN : Hid (Reader D w.heap.size 0 len len w2.heap.size k w3) := by rw [← hw]; exact Reader.new R2.out (by omega) len k
        have G3 : Hid (Below w.heap.size w w3) := by rw [← hw]; exact G2.out.alloc (by omega) _
        clear hw hcd
        go_wp2_with fail
        refine (len10 D _ _ _ _ _ k s n _ hl (by exact S.out) hs (by exact RN.out) (by exact W.out)).mono ?_
        rintro e w4 ⟨rfl, h4, h5⟩
        have hoff := h4.2.2.2.1
        have G4 : Hid (Below w.heap.size w w4) := G3.out.trans (h5.mono (by omega))
        clear h4 h5
        go_wp2_with (go_at_call 11; refine (offset11 _ _ _ (by exact hoff)).mono ?_; rintro e w5 ⟨rfl, rfl⟩)
        go_ret
        exact ⟨rfl, G4.out⟩
  · have hne : ((s : Int) == (len : Int)) = true := by rw [beq_iff_eq]; omega
    go_wp2_with fail
    go_ret
    exact ⟨rfl, G1.out⟩
end Go.Proofs.Qxb6627776a
