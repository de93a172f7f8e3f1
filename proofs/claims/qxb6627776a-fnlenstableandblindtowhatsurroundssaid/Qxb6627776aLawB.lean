import Derived.Test.Qxb6627776aLawA
namespace Go.Proofs.Qxb6627776a
open Go.RowKit

set_option maxRecDepth 100000 in
theorem lawB_long (a : Option Addr) (len cap : Nat) (k : Int) (w : World) (h : len ≤ maxLen) (hB : bytesB len = false) :
    Calls Try.prog 4 #[.slice a len cap, .int .i64 k] w fun e w' => e = .returned (.bool true) ∧ Below w.heap.size w w' := by
  go_enter Try.func4, Try.ntmps4
  go_wp2_with (go_at_call 12; refine (bytes12 _ _ _ _ _ h).mono ?_; rintro e w' ⟨rfl, rfl⟩)
  go_ret
  exact ⟨rfl, Below.refl _ _⟩
set_option maxRecDepth 100000 in
theorem lawB_out (a : Option Addr) (len cap : Nat) (k : Int) (w : World) (hl : len ≤ 1048576) (hB : bytesB len = true) (hk : k < 0 ∨ (0 ≤ k ∧ (len : Int) < k)) :
    Calls Try.prog 4 #[.slice a len cap, .int .i64 k] w fun e w' => e = .returned (.bool true) ∧ Below w.heap.size w w' := by
  rcases hk with hk | ⟨hk0, hk⟩
  all_goals
    go_enter Try.func4, Try.ntmps4
    go_wp2_with (go_at_call 12; refine (bytes12 _ _ _ _ _ (by unfold maxLen; omega)).mono ?_; rintro e w' ⟨rfl, rfl⟩)
    go_ret
    exact ⟨rfl, Below.refl _ _⟩
set_option maxRecDepth 100000 in
theorem lawB_nil (w : World) :
    Calls Try.prog 4 #[.slice none 0 0, .int .i64 0] w fun e w' => e = .returned (.bool true) ∧ Below w.heap.size w w' := by
  have hB : bytesB 0 = true := rfl
  go_enter Try.func4, Try.ntmps4
  go_wp2_with (first | (go_at_call 12; refine (bytes12 _ _ _ _ _ (by decide)).mono ?_; rintro e w' ⟨rfl, rfl⟩) | (go_at_call 6; refine (clone6n _).mono ?_; rintro e w' ⟨rfl, rfl⟩) | (go_at_call 7; refine (skip0 _ _ _).mono ?_; rintro e w' ⟨rfl, rfl⟩))
  go_ret
  exact ⟨rfl, Below.refl _ _⟩
set_option maxRecDepth 100000 in
theorem lawB_empty (x : Addr) (cap : Nat) (w : World) :
    Calls Try.prog 4 #[.slice (some x) 0 cap, .int .i64 0] w fun e w' => e = .returned (.bool true) ∧ Below w.heap.size w w' := by
  have hB : bytesB 0 = true := rfl
  go_enter Try.func4, Try.ntmps4
  go_wp2_with (first | (go_at_call 12; refine (bytes12 _ _ _ _ _ (by decide)).mono ?_; rintro e w' ⟨rfl, rfl⟩) | (go_at_call 6; refine (clone6e _ _ _).mono ?_; rintro e w' ⟨rfl, hb⟩) | (go_at_call 7; refine (skip0 _ _ _).mono ?_; rintro e w'' ⟨rfl, rfl⟩))
  go_ret
  exact ⟨rfl, by assumption⟩

set_option maxRecDepth 100000 in
set_option maxHeartbeats 2000000 in
theorem lawB_heart (D : Nat → Int) (b off len cap k : Nat) (w : World) (hl : len ≤ 1048576) (hk : k ≤ len) (hb : b < w.heap.size) (hr : Rd D b off len w) :
    Calls Try.prog 4 #[.slice (some ⟨b, off, none⟩) len cap, .int .i64 k] w fun e w' => e = .returned (.bool true) ∧ Below w.heap.size w w' := by
  have hr' : Hid (Rd D b off len w) := hr
  clear hr
  have hB : bytesB len = true := by unfold bytesB; simpa using hl
  go_enter Try.func4, Try.ntmps4
  go_wp2_with (go_at_call 12; refine (bytes12 _ _ _ _ _ (by unfold maxLen; omega)).mono ?_; rintro e w' ⟨rfl, rfl⟩)
  refine (clone6 D b off len cap w hl hb (by exact hr'.out)).mono ?_
  rintro e w1 ⟨rfl, h1, h2, h3⟩
  have R1 : Hid (Rd D w.heap.size 0 len w1) := h1
  have G1 : Hid (Below w.heap.size w w1) := h3
  clear h1 h3
  go_wp2_with fail
  refine (skip D w.heap.size 0 len len k _ rfl w1 (by exact R1.out) hl hk).mono ?_
  rintro e w1' ⟨⟨s, rfl, hs⟩, hw⟩
  subst hw
  have S : Hid (SkipR D len k s) := hs
  have s1 : k ≤ s := hs.1
  have s2 : s ≤ len := hs.2.1
  clear hs
  by_cases hs : s < len
  · have hne : ((s : Int) == (len : Int)) = false := beq_eq_false_iff_ne.2 (by omega)
    have hcd := R1.out s hs
    rw [Nat.zero_add] at hcd
    rcases tests D s 123 91 with ⟨B, b1⟩ | ⟨B, b1, b1'⟩ | ⟨b1, b1'⟩
    rotate_left 2
    · have W : Hid (Want D len s 0) := .inr ⟨by rw [bne_iff_ne]; exact beq_eq_false_iff_ne.1 b1, by rw [bne_iff_ne]; exact beq_eq_false_iff_ne.1 b1', rfl⟩
      have W3 : Hid (Want (fun i => D (s + i)) 1 0 0) := .inr ⟨by rw [bne_iff_ne]; exact beq_eq_false_iff_ne.1 b1, by rw [bne_iff_ne]; exact beq_eq_false_iff_ne.1 b1', rfl⟩
      have SS : Hid (SkipR D len s s) := ⟨Nat.le_refl _, s2, fun j a b => by omega, S.out.2.2.2⟩
      have S3 : Hid (SkipR (fun i => D (s + i)) (1) 0 0) := ⟨Nat.le_refl _, by omega, fun j a b => by omega, fun _ => S.out.2.2.2 hs⟩
      go_wp2_with fail
      refine (new9 _ _ _ _ _).mono ?_
      rintro e w3 ⟨rfl, hw⟩
      have RN : Hid (Reader D w.heap.size 0 len len w1.heap.size k w3) := by rw [← hw]; exact Reader.new R1.out (by omega) len k
      have G3 : Hid (Below w.heap.size w w3) := by rw [← hw]; exact G1.out.alloc (by omega) _
      have z3 : w1.heap.size < w3.heap.size := RN.out.2.1
      clear hw hcd
      go_wp2_with fail
      refine (len10 D _ _ _ _ _ k s 0 _ hl (by exact S.out) hs (by exact RN.out) (by exact W.out)).mono ?_
      rintro e w4 ⟨rfl, h4, h5⟩
      have R4 : Hid (Reader D w.heap.size 0 len len w1.heap.size s w4) := h4
      have hoff := h4.2.2.2.1
      have G4 : Hid (Below w.heap.size w w4) := G3.out.trans (h5.mono (by omega))
      clear h4 h5
      go_wp2_with (go_at_call 11; refine (offset11 _ _ _ (by exact hoff)).mono ?_; rintro e wo ⟨rfl, rfl⟩)
      refine (len10 D _ _ _ _ _ s s 0 _ hl (by exact SS.out) hs (by exact R4.out) (by exact W.out)).mono ?_
      rintro e w5 ⟨rfl, h4, h5⟩
      have R5 : Hid (Rd D w.heap.size 0 len w5) := h4.2.2.2.2.2
      have z5 : w1.heap.size < w5.heap.size := h4.2.1
      have hoff2 := h4.2.2.2.1
      have G5 : Hid (Below w.heap.size w w5) := G4.out.trans (h5.mono (by omega))
      clear h4 h5 hoff
      go_wp2_with (go_at_call 11; refine (offset11 _ _ _ (by exact hoff2)).mono ?_; rintro e wo ⟨rfl, rfl⟩)
      refine (new9 _ _ _ _ _).mono ?_
      rintro e w6 ⟨rfl, hw⟩
      have RC : Rd (fun i => D (s + i)) w.heap.size s (1) w5 := fun i hi => by have := R5.out (s + i) (by omega); rwa [Nat.zero_add] at this
      have RN2 : Hid (Reader (fun i => D (s + i)) w.heap.size s (1) (len - s) w5.heap.size 0 w6) := by rw [← hw]; exact Reader.new RC (by omega) (len - s) 0
      have G6 : Hid (Below w.heap.size w w6) := by rw [← hw]; exact G5.out.alloc (by omega) _
      clear hw RC
      go_wp2_with fail
      refine (len10 (fun i => D (s + i)) _ _ (1) _ _ 0 0 0 _ (by omega) (by exact S3.out) (by omega) (by exact RN2.out) (by exact W3.out)).mono ?_
      rintro e w7 ⟨rfl, h4, h5⟩
      have hoff3 := h4.2.2.2.1
      have G7 : Hid (Below w.heap.size w w7) := G6.out.trans (h5.mono (by omega))
      clear h4 h5 hoff2
      go_wp2_with (go_at_call 11; refine (offset11 _ _ _ (by exact hoff3)).mono ?_; rintro e wo ⟨rfl, rfl⟩)
      go_ret
      exact ⟨rfl, G7.out⟩
    all_goals
      go_wp2_with fail
      refine (con8 D w.heap.size 0 len len s hl hs (by have := B.out; omega) w1 (by exact R1.out)).mono ?_
      rintro e w2 ⟨⟨n, q, ok, rfl, hq1, hn1, hq2⟩, hd⟩
      have Q : Hid (ok = true → ConR D len s q n) := hq2
      have DD : Hid (Dr w1 w2) := hd
      have hsz : w1.heap.size ≤ w2.heap.size := Nat.le_of_eq (dr_size hd).symm
      have R2 : Hid (Rd D w.heap.size 0 len w2) := hd.rd R1.out
      have G2 : Hid (Below w.heap.size w w2) := dr_below G1.out hd
      clear hq2 hd
      cases ok with
      | false =>
        go_wp2_with fail
        go_ret
        exact ⟨rfl, G2.out⟩
      | true =>
        have W : Hid (Want D len s n) := .inl ⟨by have := B.out; first | (left; rw [this]; rfl) | (right; rw [this]; exact ⟨rfl, rfl⟩), con_whole (Q.out rfl)⟩
        have hsq : s < q := (Q.out rfl).1.1
        have W3 : Hid (Want (fun i => D (s + i)) (q - s) 0 n) := .inl ⟨by have := B.out; first | (left; show (D s != 123) = false; rw [this]; rfl) | (right; show (D s != 123) = true ∧ (D s != 91) = false; rw [this]; exact ⟨rfl, rfl⟩), by rw [seg_shift]; exact con_alone (Q.out rfl)⟩
        have SS : Hid (SkipR D len s s) := ⟨Nat.le_refl _, s2, fun j a b => by omega, S.out.2.2.2⟩
        have S3 : Hid (SkipR (fun i => D (s + i)) (q - s) 0 0) := ⟨Nat.le_refl _, by omega, fun j a b => by omega, fun _ => S.out.2.2.2 hs⟩
        go_wp2_with fail
        refine (new9 _ _ _ _ _).mono ?_
        rintro e w3 ⟨rfl, hw⟩
        have RN : Hid (Reader D w.heap.size 0 len len w2.heap.size k w3) := by rw [← hw]; exact Reader.new R2.out (by omega) len k
        have G3 : Hid (Below w.heap.size w w3) := by rw [← hw]; exact G2.out.alloc (by omega) _
        have z3 : w2.heap.size < w3.heap.size := RN.out.2.1
        clear hw hcd
        go_wp2_with fail
        refine (len10 D _ _ _ _ _ k s n _ hl (by exact S.out) hs (by exact RN.out) (by exact W.out)).mono ?_
        rintro e w4 ⟨rfl, h4, h5⟩
        have R4 : Hid (Reader D w.heap.size 0 len len w2.heap.size s w4) := h4
        have hoff := h4.2.2.2.1
        have G4 : Hid (Below w.heap.size w w4) := G3.out.trans (h5.mono (by omega))
        clear h4 h5
        go_wp2_with (go_at_call 11; refine (offset11 _ _ _ (by exact hoff)).mono ?_; rintro e wo ⟨rfl, rfl⟩)
        refine (len10 D _ _ _ _ _ s s n _ hl (by exact SS.out) hs (by exact R4.out) (by exact W.out)).mono ?_
        rintro e w5 ⟨rfl, h4, h5⟩
        have R5 : Hid (Rd D w.heap.size 0 len w5) := h4.2.2.2.2.2
        have z5 : w2.heap.size < w5.heap.size := h4.2.1
        have hoff2 := h4.2.2.2.1
        have G5 : Hid (Below w.heap.size w w5) := G4.out.trans (h5.mono (by omega))
        clear h4 h5 hoff
        go_wp2_with (go_at_call 11; refine (offset11 _ _ _ (by exact hoff2)).mono ?_; rintro e wo ⟨rfl, rfl⟩)
        refine (new9 _ _ _ _ _).mono ?_
        rintro e w6 ⟨rfl, hw⟩
        have RC : Rd (fun i => D (s + i)) w.heap.size s (q - s) w5 := fun i hi => by have := R5.out (s + i) (by omega); rwa [Nat.zero_add] at this
        have RN2 : Hid (Reader (fun i => D (s + i)) w.heap.size s (q - s) (len - s) w5.heap.size 0 w6) := by rw [← hw]; exact Reader.new RC (by omega) (len - s) 0
        have G6 : Hid (Below w.heap.size w w6) := by rw [← hw]; exact G5.out.alloc (by omega) _
        clear hw RC
        go_wp2_with fail
        refine (len10 (fun i => D (s + i)) _ _ (q - s) _ _ 0 0 n _ (by omega) (by exact S3.out) (by omega) (by exact RN2.out) (by exact W3.out)).mono ?_
        rintro e w7 ⟨rfl, h4, h5⟩
        have hoff3 := h4.2.2.2.1
        have G7 : Hid (Below w.heap.size w w7) := G6.out.trans (h5.mono (by omega))
        clear h4 h5 hoff2
        go_wp2_with (go_at_call 11; refine (offset11 _ _ _ (by exact hoff3)).mono ?_; rintro e wo ⟨rfl, rfl⟩)
        go_ret
        exact ⟨rfl, G7.out⟩
  · have hne : ((s : Int) == (len : Int)) = true := by rw [beq_iff_eq]; omega
    go_wp2_with fail
    go_ret
    exact ⟨rfl, G1.out⟩
end Go.Proofs.Qxb6627776a
