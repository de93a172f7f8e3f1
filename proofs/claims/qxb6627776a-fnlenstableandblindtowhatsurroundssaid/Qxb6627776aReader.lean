import Derived.Test.Qxb6627776aCon
namespace Go.Proofs.Qxb6627776a
open Go.RowKit

theorem all_val (D : Nat → Int) (b off len cap : Nat) (hl : len ≤ 1048576) : ∀ m p : Nat, p ≤ len → len - p < m → ValC D b off len cap p := by
  intro m
  induction m with
  | zero => intro p _ h; omega
  | succ m ih =>
    intro p hp h
    refine val_of D b off len cap p hl hp fun hlt ho => ?_
    have ih' : ∀ q, p < q → q ≤ len → ValC D b off len cap q := fun q h1 h2 => ih q h2 (by omega)
    rcases ho with ho | ho
    · exact con_obj D b off len cap p hl hlt ho ih'
    · exact con_arr D b off len cap p hl hlt ho ih'
/-- ████ the parser, whole ████ -/
theorem con8 (D : Nat → Int) (b off len cap p : Nat) (hl : len ≤ 1048576) (hp : p < len) (ho : D p = 123 ∨ D p = 91) : ConC D b off len cap p := by
  have ih' : ∀ q, p < q → q ≤ len → ValC D b off len cap q := fun q _ h2 => all_val D b off len cap hl (len + 1) q h2 (by omega)
  rcases ho with ho | ho
  · exact con_obj D b off len cap p hl hp ho ih'
  · exact con_arr D b off len cap p hl hp ho ih'

theorem offset11 (B : Nat) (v : Int) (w : World) (h : w.cell? ⟨B, 1, none⟩ = some (.int .i64 v)) :
    Calls Try.prog 11 #[.pointer (some ⟨B, 0, none⟩)] w fun e w' => e = .returned (.int .i64 v) ∧ w = w' := by
  go_enter Try.func11, Try.ntmps11
  go_wp2
  go_ret
  exact ⟨rfl, rfl⟩
theorem new9 (a : Option Addr) (n c : Nat) (v : Int) (w : World) :
    Calls Try.prog 9 #[.slice a n c, .int .i64 v] w fun e w' => e = .returned (.pointer (some ⟨w.heap.size, 0, none⟩)) ∧ w.alloc (.cells #[.slice a n c, .int .i64 v] 36) = w' := by
  go_enter Try.func9, Try.ntmps9
  go_wp2
  go_ret
  exact ⟨rfl, rfl⟩
theorem ws17' (c : Int) (w : World) : Calls Try.prog 17 #[.int .u8 c] w fun e w' => e = .returned (.bool (wsB c)) ∧ w' = w := by
  refine (ws17 c w).mono ?_
  rintro e w' ⟨rfl, rfl⟩
  exact ⟨rfl, rfl⟩
/-- the place that the reader in block B stands at -/
def offOf (B : Nat) (w : World) : Int := match w.cell? ⟨B, 1, none⟩ with | some (.int _ v) => v | _ => 0

/-- the reader lies in block B, over the bytes D, at place k; it may be written -/
def Reader (D : Nat → Int) (b off len cap B k : Nat) (w : World) : Prop :=
  b < B ∧ B < w.heap.size ∧ w.cell? ⟨B, 0, none⟩ = some (.slice (some ⟨b, off, none⟩) len cap) ∧ w.cell? ⟨B, 1, none⟩ = some (.int .i64 k) ∧ w.frozen? ⟨B, 1, none⟩ = false ∧ Rd D b off len w

theorem Reader.step {D : Nat → Int} {b off len cap B q : Nat} {w : World} (h : Reader D b off len cap B q w) (n : Nat) (v : Int) (hv : v = ((q + 1 : Nat) : Int)) : Reader D b off len cap B (q + 1) ((w.drewN n).setCell ⟨B, 1, none⟩ (.int .i64 v)) := by
  obtain ⟨h1, h2, h3, h4, h5, h6⟩ := h
  subst hv
  refine ⟨h1, by rw [World.size_setCell]; exact h2, ?_, ?_, ?_, fun i hi => ?_⟩
  · rw [World.cell?_setCell_other _ _ _ _ (by simp)]; exact h3
  · exact World.cell?_setCell_same _ _ _ h4
  · rw [World.frozen?_setCell]; exact h5
  · rw [World.cell?_setCell_other _ _ _ _ (by intro c; have := congrArg Addr.block c; simp at this; omega)]; exact h6 i hi
theorem Reader.drewN {D : Nat → Int} {b off len cap B q : Nat} {w : World} (h : Reader D b off len cap B q w) (n : Nat) : Reader D b off len cap B q (w.drewN n) := h
theorem below_drewN {B : Nat} {a w : World} (h : Below B a w) (n : Nat) : Below B a (w.drewN n) := h.trans ⟨rfl, rfl, rfl, Nat.le_refl _, fun _ _ => rfl⟩
theorem Reader.off {D : Nat → Int} {b off len cap B q : Nat} {w : World} (h : Reader D b off len cap B q w) : offOf B w = q := by
  unfold offOf; rw [h.2.2.2.1]

theorem space21 (D : Nat → Int) (b off len cap B k : Nat) (w : World) (hl : len ≤ 1048576) (hk : k ≤ len) (hR : Reader D b off len cap B k w) :
    Calls Try.prog 21 #[.pointer (some ⟨B, 0, none⟩)] w fun e w' => e = .returned (.tuple #[]) ∧ ∃ q, SkipR D len k q ∧ Reader D b off len cap B q w' ∧ Below B w w' := by
  have R0 : Hid (Reader D b off len cap B k w) := hR
  clear hR
  go_enter Try.func21, Try.ntmps21
  go_wp2
  go_loopw [] (fun wr => ∃ q : Nat, k ≤ q ∧ q ≤ len ∧ Hid (∀ j, k ≤ j → j < q → wsB (D j) = true) ∧ Hid (Reader D b off len cap B q wr) ∧ Hid (Below B w wr)) (fun wr => len - (offOf B wr).toNat)
  case atStart => exact ⟨k, Nat.le_refl _, hk, fun j h1 h2 => by omega, R0.out, Below.refl _ _⟩
  case round =>
    obtain ⟨q, h1, h2, H, R, G⟩ := hrel
    have hc0 := R.out.2.2.1
    have hc1 := R.out.2.2.2.1
    have hfz := R.out.2.2.2.2.1
    by_cases hq : q < len
    · have hcd := R.out.2.2.2.2.2 q hq
      have hqi : (q : Int) < (len : Int) := by omega
      cases hw : wsB (D q) with
      | true =>
        go_wp2
        go_quiet ((go_at_call 17; exact Calls.quiet_of_same (ws17' _ _)))
        go_wp2
        have R2 : Hid (Reader D b off len cap B (q + 1) ((wr.drewN nq).setCell ⟨B, 1, none⟩ (.int .i64 ((q : Int) + 1)))) := R.out.step nq _ (by omega)
        go_roundw
        case rel => exact ⟨q + 1, by omega, by omega, fun j a c => by rcases Nat.lt_succ_iff_lt_or_eq.1 c with e | e; exact H.out j a e; rw [e]; exact hw, R2.out, (below_drewN G.out nq).setCell (Nat.le_refl _) _⟩
        case measure => rw [R2.out.off, R.out.off]; omega
      | false =>
        go_wp2
        go_quiet ((go_at_call 17; exact Calls.quiet_of_same (ws17' _ _)))
        go_wp2
        go_end0
        exact ⟨rfl, q, ⟨h1, h2, H.out, fun _ => hw⟩, R.out.drewN _, below_drewN G.out _⟩
    · have hd : decide ((q : Int) < (len : Int)) = false := by rw [decide_eq_false_iff_not]; omega
      go_wp2
      go_quiet ((go_at_call 17; exact Calls.quiet_of_same (ws17' _ _)))
      go_wp2
      go_end0
      exact ⟨rfl, q, ⟨h1, h2, H.out, fun c => absurd c hq⟩, R.out.drewN _, below_drewN G.out _⟩

theorem next16 (D : Nat → Int) (b off len cap B k s : Nat) (w : World) (hl : len ≤ 1048576) (hS : SkipR D len k s) (hs : s < len) (hR : Reader D b off len cap B k w) :
    Calls Try.prog 16 #[.pointer (some ⟨B, 0, none⟩)] w fun e w' => e = .returned (.int .u8 (D s)) ∧ Reader D b off len cap B s w' ∧ Below B w w' := by
  have R0 : Hid (Reader D b off len cap B k w) := hR
  have S0 : Hid (SkipR D len k s) := hS
  have hk : k ≤ len := by have := hS.1; omega
  clear hR hS
  go_enter Try.func16, Try.ntmps16
  go_wp2_with (go_at_call 21; refine (space21 D b off len cap B k w hl hk (by exact R0.out)).mono ?_; rintro e w1 ⟨rfl, q, hq, hr, hb⟩)
  have e : q = s := hq.unique S0.out
  subst e
  have R : Hid (Reader D b off len cap B q w1) := hr
  have G : Hid (Below B w w1) := hb
  clear hq hr hb
  have hc0 := R.out.2.2.1
  have hc1 := R.out.2.2.2.1
  have hcd := R.out.2.2.2.2.2 q hs
  have hqi : (q : Int) < (len : Int) := by omega
  go_wp2
  go_quiet (fail)
  go_wp2
  go_ret
  exact ⟨rfl, R.out.drewN _, below_drewN G.out _⟩
end Go.Proofs.Qxb6627776a
