import Derived.Test.Qxb6627776aWalks
import Derived.Deep.CutRange
namespace Go.Proofs.Qxb6627776a
open Go.RowKit

def DigR (D : Nat → Int) (p q : Nat) : Prop := ∀ j, p ≤ j → j < q → 48 ≤ D j ∧ D j ≤ 57
/-- where the bool is true there was a digit -/
def DigP (D : Nat → Int) (len p : Nat) (e : Ending) : Prop := ∃ q : Nat, p ≤ q ∧ q ≤ len ∧ DigR D p q ∧ (q < len → ¬ (48 ≤ D q ∧ D q ≤ 57)) ∧ e = .returned (.tuple #[.int .i64 q, .bool (decide (p < q))])
theorem digits23 (D : Nat → Int) (b off len cap p : Nat) (w : World) (hr : Rd D b off len w) (hl : len ≤ 1048576) (hp : p ≤ len) :
    Calls Try.prog 23 #[.slice (some ⟨b, off, none⟩) len cap, .int .i64 p] w fun e w' => DigP D len p e ∧ w = w' := by
  have hr' : Hid (Rd D b off len w) := hr
  clear hr
  go_enter Try.func23, Try.ntmps23
  go_wp2
  go_loop [6] (fun i => ∃ q : Nat, p ≤ q ∧ q ≤ len ∧ i = .int .i64 q ∧ Hid (DigR D p q)) (fun i => len - (intOf i).toNat)
  case atStart => exact ⟨p, Nat.le_refl _, hp, rfl, fun j h1 h2 => by omega⟩
  case round =>
    obtain ⟨q, h1, h2, rfl, H⟩ := hrel
    by_cases hq : q < len
    · have hc := hr'.out q hq
      go_wp2_with (go_at_call 22; refine (digI _ _).mono ?_; rintro e w1 ⟨⟨r, rfl, hx⟩, rfl⟩; have HX : Hid (r = true ↔ 48 ≤ D q ∧ D q ≤ 57) := hx; clear hx; cases r)
      · go_ret2
        exact ⟨⟨q, h1, h2, H.out, fun _ c => by have := HX.out; simp at this; omega, rfl⟩, rfl⟩
      · go_round
        case rel => exact ⟨q + 1, by omega, by omega, by go_num, fun j a b => by rcases Nat.lt_succ_iff_lt_or_eq.1 b with c | c; exact H.out j a c; rw [c]; have := HX.out; simp at this; exact this⟩
        case measure => simp [intOf]; omega
    · go_wp2
      go_ret2
      exact ⟨⟨q, h1, h2, H.out, fun c => absurd c hq, rfl⟩, rfl⟩
/-- the same, its bool under a name -/
theorem digits (D : Nat → Int) (b off len cap p : Nat) (a : Int) (ha : a = (p : Int)) (w : World) (hr : Rd D b off len w) (hl : len ≤ 1048576) (hp : p ≤ len) :
    Calls Try.prog 23 #[.slice (some ⟨b, off, none⟩) len cap, .int .i64 a] w fun e w' => (∃ (q : Nat) (ok : Bool), p ≤ q ∧ q ≤ len ∧ DigR D p q ∧ (ok = true → p < q) ∧ (p < len → (48 ≤ D p ∧ D p ≤ 57) → p < q) ∧ e = .returned (.tuple #[.int .i64 q, .bool ok])) ∧ w = w' := by
  subst ha
  refine (digits23 D b off len cap p w hr hl hp).mono ?_
  rintro e w' ⟨⟨q, h1, h2, h3, h4, rfl⟩, rfl⟩
  refine ⟨⟨q, _, h1, h2, h3, by simp, fun a c => ?_, rfl⟩, rfl⟩
  rcases Nat.lt_or_ge p q with d | d
  · exact d
  · have e : q = p := by omega
    subst e; exact absurd c (h4 a)

def PlR (D : Nat → Int) (p q : Nat) : Prop := ∀ j, p ≤ j → j < q → plB (D j) = true
theorem PlR.start (D : Nat → Int) (p : Nat) : PlR D p p := fun j h1 h2 => by omega
theorem PlR.snoc {D : Nat → Int} {p q : Nat} (h : PlR D p q) (hq : plB (D q) = true) : PlR D p (q + 1) := fun j a b => by
  rcases Nat.lt_succ_iff_lt_or_eq.1 b with c | c
  · exact h j a c
  · rw [c]; exact hq
theorem PlR.dig {D : Nat → Int} {p q r : Nat} (h : PlR D p q) (hd : DigR D q r) : PlR D p r := fun j a b => by
  by_cases c : j < q
  · exact h j a c
  · exact plB_of _ (.inl (hd j (by omega) b))

theorem tests (D : Nat → Int) (q : Nat) (x y : Int) : (Hid (D q = x) ∧ (D q == x) = true) ∨ (Hid (D q = y) ∧ (D q == x) = false ∧ (D q == y) = true) ∨ ((D q == x) = false ∧ (D q == y) = false) := by
  by_cases h1 : D q = x
  · exact .inl ⟨h1, by simpa using h1⟩
  · by_cases h2 : D q = y
    · exact .inr (.inl ⟨h2, by simpa using h1, by simpa using h2⟩)
    · exact .inr (.inr ⟨by simpa using h1, by simpa using h2⟩)

set_option maxRecDepth 100000 in
set_option maxHeartbeats 1000000 in
theorem num20 (D : Nat → Int) (b off len cap p : Nat) (w : World) (hr : Rd D b off len w) (hl : len ≤ 1048576) (hp : p < len) :
    Calls Try.prog 20 #[.slice (some ⟨b, off, none⟩) len cap, .int .i64 p] w fun e w' => PairP len (ValR D len p) e ∧ w = w' := by
  have hr' : Hid (Rd D b off len w) := hr
  clear hr
  have hc := hr'.out p hp
  go_enter Try.func20, Try.ntmps20
  go_upto_if 17 with fail
  go_cut [1] from 7 (fun i wx => ∃ q : Nat, p ≤ q ∧ q ≤ len ∧ i = .int .i64 q ∧ Hid (PlR D p q) ∧ w = wx)
  case first =>
    cases b1 : (D p == 45) with
    | true =>
      have b1' : Hid (D p = 45) := (by simpa using b1 : D p = 45)
      go_wp2
      go_meet
      case rel => exact ⟨p + 1, by omega, by omega, by go_num, (PlR.start D p).snoc (plB_of _ (by rw [b1'.out]; omega)), rfl⟩
    | false =>
      go_wp2
      go_meet
      case rel => exact ⟨p, by omega, by omega, rfl, PlR.start D p, rfl⟩
  case rest =>
    obtain ⟨q, h1, h2, rfl, H, rfl⟩ := hcut
    clear hc
    by_cases hq : q < len
    · have hc := hr'.out q hq
      go_upto_if 29 with fail
      go_cut [1] from 7 (fun i wx => ∃ q : Nat, p < q ∧ q ≤ len ∧ i = .int .i64 q ∧ Hid (PlR D p q) ∧ w = wx)
      case first =>
        cases b1 : (D q == 48) with
        | true =>
          have b1' : Hid (D q = 48) := (by simpa using b1 : D q = 48)
          go_wp2
          go_meet
          case rel => exact ⟨q + 1, by omega, by omega, by go_num, H.out.snoc (plB_of _ (by rw [b1'.out]; omega)), rfl⟩
        | false =>
          by_cases b2 : 49 ≤ D q ∧ D q ≤ 57
          · obtain ⟨b3, b4⟩ := b2
            go_wp2_with (go_at_call 23; refine (digits D b off len cap q _ (by omega) _ (by exact hr'.out) hl (by omega)).mono ?_; rintro e w1 ⟨⟨r, ok, r1, r2, r3, r4, r5, rfl⟩, rfl⟩; have R3 : Hid (DigR D q r) := r3; have R5 : q < r := r5 hq ⟨by omega, b4⟩; clear r3 r4 r5)
            go_meet
            case rel => exact ⟨r, by omega, by omega, rfl, H.out.dig R3.out, rfl⟩
          · go_wp2
            all_goals (go_ret2; exact ⟨PairP.no q (by omega) rfl, rfl⟩)
      case rest =>
        clear hc hq
        obtain ⟨q, h1, h2, rfl, H, rfl⟩ := hcut
        by_cases hq : q < len
        · have hc := hr'.out q hq
          go_upto_if 61 with fail
          go_cut [1] from 7 (fun i wx => ∃ q : Nat, p < q ∧ q ≤ len ∧ i = .int .i64 q ∧ Hid (PlR D p q) ∧ w = wx)
          case first =>
            cases b1 : (D q == 46) with
            | true =>
              have b1' : Hid (D q = 46) := (by simpa using b1 : D q = 46)
              go_wp2_with (go_at_call 23; refine (digits D b off len cap (q + 1) _ (by omega) _ (by exact hr'.out) hl (by omega)).mono ?_; rintro e w1 ⟨⟨r, ok, r1, r2, r3, r4, r5, rfl⟩, rfl⟩; have R3 : Hid (DigR D (q + 1) r) := r3; clear r3 r4 r5; cases ok)
              · go_ret2
                exact ⟨PairP.no r (by omega) rfl, rfl⟩
              · go_meet
                case rel => exact ⟨r, by omega, by omega, rfl, (H.out.snoc (plB_of _ (by rw [b1'.out]; omega))).dig R3.out, rfl⟩
            | false =>
              go_wp2
              go_meet
              case rel => exact ⟨q, by omega, by omega, rfl, H.out, rfl⟩
          case rest =>
            clear hc hq
            obtain ⟨q, h1, h2, rfl, H, rfl⟩ := hcut
            by_cases hq : q < len
            · have hc := hr'.out q hq
              rcases tests D q 101 69 with ⟨B, b1⟩ | ⟨B, b1, b1'⟩ | ⟨b1, b1'⟩
              rotate_left 2
              · go_wp2
                go_ret2
                exact ⟨PairP.yes q (by omega) rfl (val_of_plain h1 h2 H.out), rfl⟩
              all_goals
                have BP : Hid (plB (D q) = true) := plB_of _ (by have := B.out; omega)
                by_cases hq1 : q + 1 < len
                · have hc1 := hr'.out (q + 1) hq1
                  rcases tests D (q + 1) 43 45 with ⟨C, c1⟩ | ⟨C, c1, c1'⟩ | ⟨c1, c1'⟩
                  · have CP : Hid (plB (D (q + 1)) = true) := plB_of _ (by have := C.out; omega)
                    go_wp2_with (go_at_call 23; refine (digits D b off len cap (q + 2) _ (by omega) _ (by exact hr'.out) hl (by omega)).mono ?_; rintro e w1 ⟨⟨r, ok, r1, r2, r3, r4, r5, rfl⟩, rfl⟩; have R3 : Hid (DigR D (q + 2) r) := r3; clear r3 r4 r5; cases ok)
                    all_goals go_ret2
                    all_goals first
                      | exact ⟨PairP.no r (by omega) rfl, rfl⟩
                      | exact ⟨PairP.yes r (by omega) rfl (val_of_plain (by omega) (by omega) (((H.out.snoc BP.out).snoc CP.out).dig R3.out)), rfl⟩
                  · have CP : Hid (plB (D (q + 1)) = true) := plB_of _ (by have := C.out; omega)
                    go_wp2_with (go_at_call 23; refine (digits D b off len cap (q + 2) _ (by omega) _ (by exact hr'.out) hl (by omega)).mono ?_; rintro e w1 ⟨⟨r, ok, r1, r2, r3, r4, r5, rfl⟩, rfl⟩; have R3 : Hid (DigR D (q + 2) r) := r3; clear r3 r4 r5; cases ok)
                    all_goals go_ret2
                    all_goals first
                      | exact ⟨PairP.no r (by omega) rfl, rfl⟩
                      | exact ⟨PairP.yes r (by omega) rfl (val_of_plain (by omega) (by omega) (((H.out.snoc BP.out).snoc CP.out).dig R3.out)), rfl⟩
                  · skip
                    go_wp2_with (go_at_call 23; refine (digits D b off len cap (q + 1) _ (by omega) _ (by exact hr'.out) hl (by omega)).mono ?_; rintro e w1 ⟨⟨r, ok, r1, r2, r3, r4, r5, rfl⟩, rfl⟩; have R3 : Hid (DigR D (q + 1) r) := r3; clear r3 r4 r5; cases ok)
                    all_goals go_ret2
                    all_goals first
                      | exact ⟨PairP.no r (by omega) rfl, rfl⟩
                      | exact ⟨PairP.yes r (by omega) rfl (val_of_plain (by omega) (by omega) ((H.out.snoc BP.out).dig R3.out)), rfl⟩
                · skip
                  go_wp2_with (go_at_call 23; refine (digits D b off len cap (q + 1) _ (by omega) _ (by exact hr'.out) hl (by omega)).mono ?_; rintro e w1 ⟨⟨r, ok, r1, r2, r3, r4, r5, rfl⟩, rfl⟩; have R3 : Hid (DigR D (q + 1) r) := r3; clear r3 r4 r5; cases ok)
                  all_goals go_ret2
                  all_goals first
                    | exact ⟨PairP.no r (by omega) rfl, rfl⟩
                    | exact ⟨PairP.yes r (by omega) rfl (val_of_plain (by omega) (by omega) ((H.out.snoc BP.out).dig R3.out)), rfl⟩
            · go_wp2
              go_ret2
              exact ⟨PairP.yes q (by omega) rfl (val_of_plain h1 h2 H.out), rfl⟩
        · go_wp2
          go_ret2
          exact ⟨PairP.yes q (by omega) rfl (val_of_plain h1 h2 H.out), rfl⟩
    · go_wp2
      go_ret2
      exact ⟨PairP.no q (by omega) rfl, rfl⟩
end Go.Proofs.Qxb6627776a
