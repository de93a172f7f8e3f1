import Derived.Test.Qxb6627776aLen
namespace Go.Proofs.Qxb6627776a
open Go.RowKit

theorem Try.info5 : (Try.prog.info? 5).map (fun i => (i.zero, i.size, i.bytes)) = some (some (.int .u8 0), 1, 1) := by kernel_rfl

/-- k bytes have been copied into the new row N -/
def CInv (D : Nat → Int) (N len k : Nat) (w wr : World) : Prop :=
  (∃ xs, wr.ownsRow N 5 1 (.slice (some ⟨N, 0, none⟩) len len) len xs ∧ ∀ j, j < k → xs[j]? = some (.int .u8 (D j))) ∧ Below N w wr
theorem CInv.cell {D : Nat → Int} {N len k : Nat} {w wr : World} (h : CInv D N len k w wr) (j : Nat) (hj : j < len) : ∃ u, wr.cell? ⟨N, j, none⟩ = some u := by
  obtain ⟨⟨xs, ho, _⟩, _⟩ := h
  have hlen := ho.1
  rw [ho.cellAt j (by omega)]
  exact ⟨xs[j]'(by omega), List.getElem?_eq_getElem (by omega)⟩
theorem CInv.frozen {D : Nat → Int} {N len k : Nat} {w wr : World} (h : CInv D N len k w wr) (j : Nat) : wr.frozen? ⟨N, j, none⟩ = false := by
  obtain ⟨⟨xs, ho, _⟩, _⟩ := h
  exact ho.frozenAt j
theorem CInv.step {D : Nat → Int} {N len k : Nat} {w wr : World} (h : CInv D N len k w wr) (hk : k < len) : CInv D N len (k + 1) w (wr.setCell ⟨N, k, none⟩ (.int .u8 (D k))) := by
  obtain ⟨⟨xs, ho, hx⟩, hb⟩ := h
  have hlen := ho.1
  refine ⟨⟨_, (ho.stored k (.int .u8 (D k))).1, fun j hj => ?_⟩, hb.setCell (Nat.le_refl _) _⟩
  rw [List.getElem?_set]
  by_cases e : k = j
  · subst e; rw [if_pos rfl, if_pos (by omega)]
  · rw [if_neg e]; exact hx j (by omega)
theorem CInv.fin {D : Nat → Int} {N len : Nat} {w wr : World} (h : CInv D N len len w wr) : Rd D N 0 len wr ∧ N < wr.heap.size ∧ Below N w wr := by
  obtain ⟨⟨xs, ho, hx⟩, hb⟩ := h
  refine ⟨fun i hi => ?_, (ho.lt N rfl).2, hb⟩
  rw [Nat.zero_add, ho.cellAt i (by omega), hx i hi]

theorem clone6 (D : Nat → Int) (b off len cap : Nat) (w : World) (hl : len ≤ 1048576) (hb : b < w.heap.size) (hr : Rd D b off len w) :
    Calls Try.prog 6 #[.slice (some ⟨b, off, none⟩) len cap] w fun e w' => e = .returned (.slice (some ⟨w.heap.size, 0, none⟩) len len) ∧ Rd D w.heap.size 0 len w' ∧ w.heap.size < w'.heap.size ∧ Below w.heap.size w w' := by
  have hr' : Hid (Rd D b off len w) := hr
  clear hr
  obtain ⟨i0, hi, hz0, hz1, hz2⟩ := info_parts Try.info5
  have hnil := fun wx => Lib.run_eql_slice_nil (P := Try.prog) wx 22 5 (some ⟨b, off, none⟩) len cap 0 0 Try.underlying22
  go_enter Try.func6, Try.ntmps6
  go_wp2_with (at_make; refine wpList_make_full _ rfl _ _ 22 rfl w.heap.size 5 i0 (.int .u8 0) 1 Try.underlying22 hi hz0 hz1 .i64 .i64 _ _ len rfl rfl rfl rfl (by rw [hz2]; omega) (by unfold maxLen; omega) (by omega) ?_; intro w1 hown hgrow)
  have I0 : Hid (CInv D w.heap.size len 0 w w1) := ⟨⟨_, hown, fun j hj => by omega⟩, Below.grown (Below.refl _ _) hgrow (Nat.le_refl _) (fun k hk => by cases hk)⟩
  clear hown hgrow hnil hi hz0 hz1 hz2
  go_loopw [4] (fun i wr => ∃ k : Nat, k ≤ len ∧ i = .int .i64 k ∧ Hid (CInv D w.heap.size len k w wr)) (fun i _ => len - (intOf i).toNat)
  case atStart => exact ⟨0, Nat.zero_le _, rfl, I0.out⟩
  case round =>
    obtain ⟨k, hk, rfl, I⟩ := hrel
    by_cases hlt : k < len
    · obtain ⟨u, hu⟩ := I.out.cell k hlt
      have hfz := I.out.frozen k
      have hcd : wr.cell? ⟨b, off + k, none⟩ = some (.int .u8 (D k)) := (I.out.2.cell (p := ⟨b, off + k, none⟩) hb).trans (hr'.out k hlt)
      go_wp2
      go_roundw
      case rel => exact ⟨k + 1, by omega, by go_num, I.out.step hlt⟩
      case measure => simp [intOf]; omega
    · have hk' : k = len := by omega
      have F : Hid (Rd D w.heap.size 0 len wr ∧ w.heap.size < wr.heap.size ∧ Below w.heap.size w wr) := by
        have := I.out; rw [hk'] at this; exact this.fin
      clear hk'
      go_wp2
      go_ret
      exact ⟨rfl, F.out⟩
/-- a slice without elements, wherever it points -/
theorem clone6e (x : Addr) (cap : Nat) (w : World) :
    Calls Try.prog 6 #[.slice (some x) 0 cap] w fun e w' => e = .returned (.slice (some ⟨w.heap.size, 0, none⟩) 0 0) ∧ Below w.heap.size w w' := by
  obtain ⟨i0, hi, hz0, hz1, hz2⟩ := info_parts Try.info5
  have hnil := fun wx => Lib.run_eql_slice_nil (P := Try.prog) wx 22 5 (some x) 0 cap 0 0 Try.underlying22
  go_enter Try.func6, Try.ntmps6
  go_wp2_with (at_make; refine wpList_make_full _ rfl _ _ 22 rfl w.heap.size 5 i0 (.int .u8 0) 1 Try.underlying22 hi hz0 hz1 .i64 .i64 _ _ 0 rfl rfl rfl rfl (by rw [hz2]; omega) (by unfold maxLen; omega) (by omega) ?_; intro w1 hown hgrow)
  have I0 : Hid (Below w.heap.size w w1) := Below.grown (Below.refl _ _) hgrow (Nat.le_refl _) (fun k hk => by cases hk)
  clear hown hgrow hnil hi hz0 hz1 hz2
  refine wp_loop_rounds 1 ?_
  rw [rounds_succ]
  go_wp2
  go_ret
  exact ⟨rfl, I0.out⟩
theorem clone6n (w : World) :
    Calls Try.prog 6 #[.slice none 0 0] w fun e w' => e = .returned (.slice none 0 0) ∧ w = w' := by
  have hnil := fun wx => Lib.run_eql_slice_nil (P := Try.prog) wx 22 5 none 0 0 0 0 Try.underlying22
  go_enter Try.func6, Try.ntmps6
  go_wp2
  go_ret
  exact ⟨rfl, rfl⟩
theorem skip0 (a : Option Addr) (cap : Nat) (w : World) :
    Calls Try.prog 7 #[.slice a 0 cap, .int .i64 0] w fun e w' => e = .returned (.int .i64 0) ∧ w = w' := by
  go_enter Try.func7, Try.ntmps7
  go_wp2
  refine wp_loop_rounds 1 ?_
  rw [rounds_succ]
  go_wp2_with fail
  go_ret
  exact ⟨rfl, rfl⟩
def bytesB (len : Nat) : Bool := decide (len ≤ 1048576)
theorem bytes5 (a : Option Addr) (len cap : Nat) (k : Int) (w : World) (h : len ≤ maxLen) :
    Calls Try.prog 5 #[.slice a len cap, .int .i64 k] w fun e w' => e = .returned (.bool (bytesB len)) ∧ w = w' := by
  unfold maxLen at h
  go_enter Try.func5, Try.ntmps5
  go_wp2
  all_goals
    go_ret
    refine ⟨ret_bool ?_, rfl⟩
    unfold bytesB
    symm
    first
      | (rw [decide_eq_true_iff]; omega)
      | (rw [decide_eq_false_iff_not]; omega)
theorem bytes12 (a : Option Addr) (len cap : Nat) (k : Int) (w : World) (h : len ≤ maxLen) :
    Calls Try.prog 12 #[.slice a len cap, .int .i64 k] w fun e w' => e = .returned (.bool (bytesB len)) ∧ w = w' := by
  unfold maxLen at h
  go_enter Try.func12, Try.ntmps12
  go_wp2
  all_goals
    go_ret
    refine ⟨ret_bool ?_, rfl⟩
    unfold bytesB
    symm
    first
      | (rw [decide_eq_true_iff]; omega)
      | (rw [decide_eq_false_iff_not]; omega)
theorem len_zero (D : Nat → Int) (b off len cap B k s : Nat) (w : World) (hl : len ≤ 1048576) (hS : SkipR D len k s) (hs : s < len) (hR : Reader D b off len cap B k w)
    (o1 : (D s != 123) = true) (o2 : (D s != 91) = true) :
    Calls Try.prog 10 #[.pointer (some ⟨B, 0, none⟩)] w fun e w' => e = .returned (.int .i64 0) ∧ Reader D b off len cap B s w' ∧ Below B w w' := by
  have R0 : Hid (Reader D b off len cap B k w) := hR
  have S0 : Hid (SkipR D len k s) := hS
  clear hR hS
  go_enter Try.func10, Try.ntmps10
  go_wp2_with fail
  refine (next16 D b off len cap B k s w hl (by exact S0.out) hs (by exact R0.out)).mono ?_
  rintro e w1 ⟨rfl, hr, hb⟩
  have R1 : Hid (Reader D b off len cap B s w1) := hr
  have G1 : Hid (Below B w w1) := hb
  clear hr hb
  go_wp2_with fail
  go_ret
  exact ⟨rfl, R1.out, G1.out⟩
/-- 'Len', one contract for both ways: 'm' is what the reader must answer -/
def Want (D : Nat → Int) (len s : Nat) (m : Int) : Prop :=
  ((((D s != 123) = false) ∨ ((D s != 123) = true ∧ (D s != 91) = false)) ∧ scan (seg D s len) 0 0 0 = some m) ∨ ((D s != 123) = true ∧ (D s != 91) = true ∧ m = 0)
theorem len10 (D : Nat → Int) (b off len cap B k s : Nat) (m : Int) (w : World) (hl : len ≤ 1048576) (hS : SkipR D len k s) (hs : s < len) (hR : Reader D b off len cap B k w) (hm : Want D len s m) :
    Calls Try.prog 10 #[.pointer (some ⟨B, 0, none⟩)] w fun e w' => e = .returned (.int .i64 m) ∧ Reader D b off len cap B s w' ∧ Below B w w' := by
  rcases hm with ⟨h1, h2⟩ | ⟨h1, h2, rfl⟩
  · exact len_some D b off len cap B k s m w hl hS hs hR h1 h2
  · exact len_zero D b off len cap B k s w hl hS hs hR h1 h2
end Go.Proofs.Qxb6627776a
