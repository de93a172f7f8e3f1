import Derived.Test.Qxb6627776aRows
import Derived.Test.Qxb6627776aPlain
import Derived.WalkKit
import Derived.WalkSpells
import Derived.BigQuiet
import Derived.Deep.QuietTactic
namespace Go.Proofs.Qxb6627776a
open Go.RowKit

theorem ret_int {k : IntKind} {a b : Int} (h : a = b) : Ending.returned (.int k a) = .returned (.int k b) := by rw [h]
theorem ret_bool {a b : Bool} (h : a = b) : Ending.returned (.bool a) = .returned (.bool b) := by rw [h]
theorem int_eq {k : IntKind} {a b : Int} (h : a = b) : Value.int k a = .int k b := by rw [h]

/-- what a slice of bytes holds, in a world -/
def Rd (D : Nat → Int) (b off len : Nat) (w : World) : Prop := ∀ i, i < len → w.cell? ⟨b, off + i, none⟩ = some (.int .u8 (D i))
theorem Rd.drewN {D : Nat → Int} {b off len : Nat} {w : World} (h : Rd D b off len w) (n : Nat) : Rd D b off len (w.drewN n) := h
def By (D : Nat → Int) : Prop := ∀ i, 0 ≤ D i ∧ D i ≤ 255

/-- one bool comes back; where it is true, P -/
def BoolP (P : Prop) (e : Ending) : Prop := ∃ r : Bool, e = .returned (.bool r) ∧ (r = true → P)
theorem BoolP.mk {P : Prop} {e : Ending} (r : Bool) (he : e = .returned (.bool r)) (h : r = true → P) : BoolP P e := ⟨r, he, h⟩
/-- one bool comes back: P -/
def BoolI (P : Prop) (e : Ending) : Prop := ∃ r : Bool, e = .returned (.bool r) ∧ (r = true ↔ P)
theorem BoolI.mk {P : Prop} {e : Ending} (r : Bool) (he : e = .returned (.bool r)) (h : r = true ↔ P) : BoolI P e := ⟨r, he, h⟩
/-- a place and a bool come back; where the bool is true, Q of the place -/
def PairP (len : Nat) (Q : Nat → Prop) (e : Ending) : Prop := ∃ (q : Nat) (ok : Bool), e = .returned (.tuple #[.int .i64 q, .bool ok]) ∧ q ≤ len ∧ (ok = true → Q q)
theorem PairP.no {len : Nat} {Q : Nat → Prop} {e : Ending} (q : Nat) (hq : q ≤ len) (he : e = .returned (.tuple #[.int .i64 q, .bool false])) : PairP len Q e := ⟨q, false, he, hq, fun h => by cases h⟩
theorem PairP.yes {len : Nat} {Q : Nat → Prop} {e : Ending} (q : Nat) (hq : q ≤ len) (he : e = .returned (.tuple #[.int .i64 q, .bool true])) (h : Q q) : PairP len Q e := ⟨q, true, he, hq, fun _ => h⟩

theorem ws13 (c : Int) (w : World) : Calls Try.prog 13 #[.int .u8 c] w fun e w' => e = .returned (.bool (wsB c)) ∧ w = w' := by
  go_enter Try.func13, Try.ntmps13
  go_wp2
  all_goals
    go_ret
    refine ⟨ret_bool ?_, rfl⟩
    first | rfl | (symm; rw [wsB_iff]; omega)
theorem ws17 (c : Int) (w : World) : Calls Try.prog 17 #[.int .u8 c] w fun e w' => e = .returned (.bool (wsB c)) ∧ w = w' := by
  go_enter Try.func17, Try.ntmps17
  go_wp2
  all_goals
    go_ret
    refine ⟨ret_bool ?_, rfl⟩
    first | rfl | (symm; rw [wsB_iff]; omega)
theorem digI (c : Int) (w : World) : Calls Try.prog 22 #[.int .u8 c] w fun e w' => BoolI (48 ≤ c ∧ c ≤ 57) e ∧ w = w' := by
  go_enter Try.func22, Try.ntmps22
  go_wp2
  all_goals
    go_ret
    refine ⟨BoolI.mk _ rfl ?_, rfl⟩
    simp
    omega
theorem dig22 (c : Int) (w : World) : Calls Try.prog 22 #[.int .u8 c] w fun e w' => BoolP (48 ≤ c ∧ c ≤ 57) e ∧ w = w' := by
  refine (digI c w).mono ?_
  rintro e w' ⟨⟨r, rfl, h⟩, rfl⟩
  exact ⟨⟨r, rfl, h.1⟩, rfl⟩
theorem hex18 (c : Int) (w : World) : Calls Try.prog 18 #[.int .u8 c] w fun e w' => BoolP (c ≠ 34 ∧ c ≠ 92) e ∧ w = w' := by
  go_enter Try.func18, Try.ntmps18
  go_wp2_with (go_at_call 22; refine (dig22 _ _).mono ?_; rintro e w1 ⟨⟨r, rfl, hr⟩, rfl⟩; cases r <;> simp only [forall_const, reduceCtorEq, false_imp_iff] at hr)
  all_goals
    go_ret
    refine ⟨BoolP.mk _ rfl fun h => ?_, rfl⟩
    simp at h <;> omega
theorem skip7 (D : Nat → Int) (b off len cap k : Nat) (w : World) (hr : Rd D b off len w) (hl : len ≤ 1048576) (hk : k ≤ len) :
    Calls Try.prog 7 #[.slice (some ⟨b, off, none⟩) len cap, .int .i64 k] w fun e w' => (∃ q : Nat, e = .returned (.int .i64 q) ∧ SkipR D len k q) ∧ w = w' := by
  have hr' : Hid (Rd D b off len w) := hr
  clear hr
  go_enter Try.func7, Try.ntmps7
  go_wp2
  go_loop [1] (fun i => ∃ q : Nat, k ≤ q ∧ q ≤ len ∧ i = .int .i64 q ∧ Hid (∀ j, k ≤ j → j < q → wsB (D j) = true)) (fun i => len - (intOf i).toNat)
  case atStart => exact ⟨k, Nat.le_refl _, hk, rfl, fun j h1 h2 => by omega⟩
  case round =>
    obtain ⟨q, h1, h2, rfl, H⟩ := hrel
    by_cases hq : q < len
    · have hc := hr'.out q hq
      cases hw : wsB (D q) with
      | true =>
        go_wp2_with (go_at_call 13; refine (ws13 _ _).mono ?_; rintro e w1 ⟨rfl, rfl⟩)
        go_round
        case rel => exact ⟨q + 1, by omega, by omega, by go_num, fun j a b => by rcases Nat.lt_succ_iff_lt_or_eq.1 b with c | c; exact H.out j a c; rw [c]; exact hw⟩
        case measure => simp [intOf]; omega
      | false =>
        go_wp2_with (go_at_call 13; refine (ws13 _ _).mono ?_; rintro e w1 ⟨rfl, rfl⟩)
        go_ret
        exact ⟨⟨q, rfl, h1, h2, H.out, fun _ => hw⟩, rfl⟩
    · go_wp2_with (go_at_call 13; refine (ws13 _ _).mono ?_; rintro e w1 ⟨rfl, rfl⟩)
      go_ret
      exact ⟨⟨q, rfl, h1, h2, H.out, fun c => absurd c hq⟩, rfl⟩
/-- the same, its argument as the walk spells it -/
theorem skip (D : Nat → Int) (b off len cap k : Nat) (a : Int) (ha : a = (k : Int)) (w : World) (hr : Rd D b off len w) (hl : len ≤ 1048576) (hk : k ≤ len) :
    Calls Try.prog 7 #[.slice (some ⟨b, off, none⟩) len cap, .int .i64 a] w fun e w' => (∃ q : Nat, e = .returned (.int .i64 q) ∧ SkipR D len k q) ∧ w = w' := by
  subst ha; exact skip7 D b off len cap k w hr hl hk

set_option maxRecDepth 100000 in
theorem str14 (D : Nat → Int) (b off len cap p : Nat) (w : World) (hr : Rd D b off len w) (hl : len ≤ 1048576) (hp : p < len) (h0 : D p = 34) :
    Calls Try.prog 14 #[.slice (some ⟨b, off, none⟩) len cap, .int .i64 p] w fun e w' => PairP len (ValR D len p) e ∧ w = w' := by
  have hr' : Hid (Rd D b off len w) := hr
  have H0 : Hid (D p = 34) := h0
  clear hr h0
  go_enter Try.func14, Try.ntmps14
  go_wp2
  go_loop [1] (fun i => ∃ q : Nat, p + 1 ≤ q ∧ q ≤ len ∧ i = .int .i64 q ∧ Hid (InS D p q)) (fun i => len - (intOf i).toNat)
  case atStart => exact ⟨p + 1, Nat.le_refl _, hp, by go_num, InS.start D p⟩
  case round =>
    obtain ⟨q, h1, h2, rfl, H⟩ := hrel
    by_cases hq : q < len
    · have hc := hr'.out q hq
      cases b1 : (D q == 34) with
      | true =>
        have b1' : Hid (D q = 34) := (by simpa using b1 : D q = 34)
        go_wp2
        go_ret2
        exact ⟨PairP.yes (q + 1) (by omega) rfl (H.out.close H0.out b1'.out hq), rfl⟩
      | false =>
        by_cases b2 : D q < 32
        · go_wp2
          go_ret2
          exact ⟨PairP.no q (by omega) rfl, rfl⟩
        · cases b3 : (D q != 92) with
          | true =>
            have b3' : Hid (D q ≠ 92) := (by simpa using b3 : D q ≠ 92)
            have b1' : Hid (D q ≠ 34) := (by simpa using b1 : D q ≠ 34)
            go_wp2
            go_round
            case rel => exact ⟨q + 1, by omega, by omega, by go_num, H.out.char b1'.out b3'.out⟩
            case measure => simp [intOf]; omega
          | false =>
            have b3' : Hid (D q = 92) := (by simpa using b3 : D q = 92)
            by_cases b4 : q + 1 < len
            · have hc2 := hr'.out (q + 1) b4
              by_cases hu : D (q + 1) = 117 ∧ q + 6 ≤ len
              · have h6 : q + 6 ≤ len := hu.2
                have e34 : (D (q + 1) == 34) = false := by rw [hu.1]; rfl
                have e92 : (D (q + 1) == 92) = false := by rw [hu.1]; rfl
                have e47 : (D (q + 1) == 47) = false := by rw [hu.1]; rfl
                have e98 : (D (q + 1) == 98) = false := by rw [hu.1]; rfl
                have e102 : (D (q + 1) == 102) = false := by rw [hu.1]; rfl
                have e110 : (D (q + 1) == 110) = false := by rw [hu.1]; rfl
                have e114 : (D (q + 1) == 114) = false := by rw [hu.1]; rfl
                have e116 : (D (q + 1) == 116) = false := by rw [hu.1]; rfl
                have e117 : (D (q + 1) != 117) = false := by rw [hu.1]; rfl
                clear hu
                go_wp2
                go_loop [8] (fun i => ∃ k : Nat, 2 ≤ k ∧ k ≤ 6 ∧ i = .int .i64 k ∧ Hid (∀ j, 2 ≤ j → j < k → D (q + j) ≠ 34 ∧ D (q + j) ≠ 92)) (fun i => 6 - (intOf i).toNat)
                case atStart => exact ⟨2, by omega, by omega, rfl, fun j h1 h2 => by omega⟩
                case round =>
                  obtain ⟨k, k1, k2, rfl, HK⟩ := hrel
                  by_cases hk : k < 6
                  · have hc3 := hr'.out (q + k) (by omega)
                    go_wp2_with (go_at_call 18; refine (hex18 _ _).mono ?_; rintro e w1 ⟨⟨r, rfl, hx⟩, rfl⟩; have HX : Hid (r = true → D (q + k) ≠ 34 ∧ D (q + k) ≠ 92) := hx; clear hx; cases r)
                    · go_ret2
                      exact ⟨PairP.no q (by omega) rfl, rfl⟩
                    · go_round
                      case rel => exact ⟨k + 1, by omega, by omega, by go_num, fun j a b => by rcases Nat.lt_succ_iff_lt_or_eq.1 b with c | c; exact HK.out j a c; rw [c]; exact HX.out (by simp)⟩
                      case measure => simp [intOf]; omega
                  · have hk6 : Hid (k = 6) := (by omega : k = 6)
                    go_wp2
                    go_round
                    case rel => exact ⟨q + 6, by omega, by omega, by go_num, H.out.uni b3'.out (by rw [← hk6.out]; exact HK.out)⟩
                    case measure => simp [intOf]; omega
              · go_wp2
                all_goals first
                  | (go_ret2; exact ⟨PairP.no q (by omega) rfl, rfl⟩)
                  | (go_round
                     case rel => exact ⟨q + 2, by omega, by omega, by go_num, H.out.esc b3'.out⟩
                     case measure => simp [intOf]; omega)
            · go_wp2
              go_ret2
              exact ⟨PairP.no q (by omega) rfl, rfl⟩
    · go_wp2
      go_ret2
      exact ⟨PairP.no q h2 rfl, rfl⟩
end Go.Proofs.Qxb6627776a
