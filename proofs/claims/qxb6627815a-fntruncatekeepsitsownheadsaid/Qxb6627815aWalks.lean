import Derived.Test.Qxb6627815aRows
import Derived.Test.Qxb6627815aDecode
import Derived.WalkKit
import Derived.WalkSpells
namespace Go.Proofs.Qxb6627815a
open Go.RowKit

theorem ret_int {k : IntKind} {a b : Int} (h : a = b) : Ending.returned (.int k a) = .returned (.int k b) := by rw [h]
theorem ret_bool {a b : Bool} (h : a = b) : Ending.returned (.bool a) = .returned (.bool b) := by rw [h]
theorem int_eq {k : IntKind} {a b : Int} (h : a = b) : Value.int k a = .int k b := by rw [h]

/-! the width, way by way -/
theorem w_one (s : ByteArray) (i : Nat) (h : i < s.size) (ha : (s[i].toNat : Int) < 194 ∨ 244 < (s[i].toNat : Int)) : wl (s.data.toList.drop i) = 1 := by
  by_cases h3 : i + 3 < s.size
  · rw [wl_of4 s i h3, if_neg (by rw [c4_iff]; omega), if_neg (by rw [c3_iff]; omega), if_neg (by rw [c2_iff]; omega)]
  · by_cases h2 : i + 2 < s.size
    · rw [wl_of3 s i h2 (by omega), if_neg (by rw [c3_iff]; omega), if_neg (by rw [c2_iff]; omega)]
    · by_cases h1 : i + 1 < s.size
      · rw [wl_of2 s i h1 (by omega), if_neg (by rw [c2_iff]; omega)]
      · exact wl_of1 s i h (by omega)
theorem w_two (s : ByteArray) (i : Nat) (h1 : i + 1 < s.size) (ha : 194 ≤ (s[i].toNat : Int) ∧ (s[i].toNat : Int) ≤ 223) :
    wl (s.data.toList.drop i) = if c2 s[i].toNat s[i + 1].toNat = true then 2 else 1 := by
  by_cases h3 : i + 3 < s.size
  · rw [wl_of4 s i h3, if_neg (by rw [c4_iff]; omega), if_neg (by rw [c3_iff]; omega)]
  · by_cases h2 : i + 2 < s.size
    · rw [wl_of3 s i h2 (by omega), if_neg (by rw [c3_iff]; omega)]
    · exact wl_of2 s i h1 (by omega)
theorem w_two_short (s : ByteArray) (i : Nat) (h : i < s.size) (h1 : s.size ≤ i + 1) : wl (s.data.toList.drop i) = 1 := wl_of1 s i h h1
theorem w_three (s : ByteArray) (i : Nat) (h2 : i + 2 < s.size) (ha : 224 ≤ (s[i].toNat : Int) ∧ (s[i].toNat : Int) ≤ 239) :
    wl (s.data.toList.drop i) = if c3 s[i].toNat s[i + 1].toNat s[i + 2].toNat = true then 3 else 1 := by
  by_cases h3 : i + 3 < s.size
  · rw [wl_of4 s i h3, if_neg (by rw [c4_iff]; omega)]
    congr 1; rw [if_neg (by rw [c2_iff]; omega)]
  · rw [wl_of3 s i h2 (by omega)]
    congr 1; rw [if_neg (by rw [c2_iff]; omega)]
theorem w_three_short (s : ByteArray) (i : Nat) (h : i < s.size) (h2 : s.size ≤ i + 2) (ha : 224 ≤ (s[i].toNat : Int)) : wl (s.data.toList.drop i) = 1 := by
  by_cases h1 : i + 1 < s.size
  · rw [wl_of2 s i h1 (by omega), if_neg (by rw [c2_iff]; omega)]
  · exact wl_of1 s i h (by omega)
theorem w_four (s : ByteArray) (i : Nat) (h3 : i + 3 < s.size) (ha : 240 ≤ (s[i].toNat : Int)) :
    wl (s.data.toList.drop i) = if c4 s[i].toNat s[i + 1].toNat s[i + 2].toNat s[i + 3].toNat = true then 4 else 1 := by
  rw [wl_of4 s i h3]
  congr 1; rw [if_neg (by rw [c3_iff]; omega), if_neg (by rw [c2_iff]; omega)]
theorem w_four_short (s : ByteArray) (i : Nat) (h : i < s.size) (h3 : s.size ≤ i + 3) (ha : 240 ≤ (s[i].toNat : Int)) : wl (s.data.toList.drop i) = 1 := by
  by_cases h2 : i + 2 < s.size
  · rw [wl_of3 s i h2 (by omega), if_neg (by rw [c3_iff]; omega), if_neg (by rw [c2_iff]; omega)]
  · exact w_three_short s i h (by omega) (by omega)

def BoolI (P : Prop) (e : Ending) : Prop := ∃ r : Bool, e = .returned (.bool r) ∧ (r = true ↔ P)
theorem BoolI.mk {P : Prop} {e : Ending} (r : Bool) (he : e = .returned (.bool r)) (h : r = true ↔ P) : BoolI P e := ⟨r, he, h⟩
theorem in11 (b lo hi : Int) (w : World) : Calls Try.prog 11 #[.int .u8 b, .int .u8 lo, .int .u8 hi] w fun e w' => BoolI (lo ≤ b ∧ b ≤ hi) e ∧ w = w' := by
  go_enter Try.func11, Try.ntmps11
  go_wp2
  all_goals
    go_ret
    refine ⟨BoolI.mk _ rfl ?_, rfl⟩
    simp
    omega

set_option maxRecDepth 100000 in
set_option maxHeartbeats 2000000 in
theorem width10 (s : ByteArray) (i : Nat) (w : World) (hs : s.size ≤ 1048576) (hi : i < s.size) :
    Calls Try.prog 10 #[.string s, .int .i64 i] w fun e w' => e = .returned (.int .i64 (wl (s.data.toList.drop i) : Int)) ∧ w = w' := by
  have hb := s[i].toNat_lt
  by_cases r0 : (s[i].toNat : Int) < 194 ∨ 244 < (s[i].toNat : Int)
  · have E : Hid (wl (s.data.toList.drop i) = 1) := w_one s i hi r0
    go_enter Try.func10, Try.ntmps10
    go_wp2_with fail
    all_goals (go_ret; exact ⟨ret_int (by rw [E.out]; rfl), rfl⟩)
  · have r1 : 194 ≤ (s[i].toNat : Int) := by omega
    have r2 : (s[i].toNat : Int) ≤ 244 := by omega
    clear r0
    by_cases q2 : (s[i].toNat : Int) ≤ 223
    · by_cases h1 : i + 1 < s.size
      · have E : Hid (wl (s.data.toList.drop i) = if c2 s[i].toNat s[i + 1].toNat = true then 2 else 1) := w_two s i h1 ⟨r1, q2⟩
        go_enter Try.func10, Try.ntmps10
        go_wp2_with fail
        refine (in11 _ _ _ _).mono ?_
        rintro e w1 ⟨⟨r, rfl, hr⟩, hw⟩
        subst hw
        have R0 : Hid (r = true ↔ 128 ≤ (s[i + 1].toNat : Int) ∧ (s[i + 1].toNat : Int) ≤ 191) := hr
        clear hr
        cases r with
        | false =>
          go_wp2_with fail
          go_ret
          exact ⟨ret_int (by have R := R0.out; simp only [reduceCtorEq, false_iff] at R; rw [E.out, if_neg (by rw [c2_iff]; omega)]; rfl), rfl⟩
        | true =>
          go_wp2_with fail
          go_ret
          exact ⟨ret_int (by have Q0 := R0.out; simp only [true_iff] at Q0; rw [E.out, if_pos (by rw [c2_iff]; omega)]; rfl), rfl⟩
      · have E : Hid (wl (s.data.toList.drop i) = 1) := w_two_short s i hi (by omega)
        go_enter Try.func10, Try.ntmps10
        go_wp2_with fail
        all_goals (go_ret; exact ⟨ret_int (by rw [E.out]; rfl), rfl⟩)
    · have q2' : 224 ≤ (s[i].toNat : Int) ∨ (s[i].toNat : Int) < 224 := by omega
      by_cases q3 : (s[i].toNat : Int) < 240
      · by_cases q4 : (s[i].toNat : Int) < 224
        · omega
        · have q5 : 224 ≤ (s[i].toNat : Int) := by omega
          clear q2' q4 q2
          by_cases h2 : i + 2 < s.size
          · have h1 : i + 1 < s.size := by omega
            have E : Hid (wl (s.data.toList.drop i) = if c3 s[i].toNat s[i + 1].toNat s[i + 2].toNat = true then 3 else 1) := w_three s i h2 ⟨q5, by omega⟩
            by_cases z1 : (s[i].toNat : Int) = 224
            · have Z : Hid ((s[i].toNat : Int) = 224) := z1
              have z2 : ((s[i].toNat : Int) == 224) = true := by simpa using z1
              have z3 : ((s[i].toNat : Int) == 237) = false := beq_eq_false_iff_ne.2 (by omega)
              clear z1
              go_enter Try.func10, Try.ntmps10
              go_wp2_with fail
              refine (in11 _ _ _ _).mono ?_
              rintro e w1 ⟨⟨r, rfl, hr⟩, hw⟩
              subst hw
              have R0 : Hid (r = true ↔ 160 ≤ (s[i + 1].toNat : Int) ∧ (s[i + 1].toNat : Int) ≤ 191) := hr
              clear hr
              cases r with
              | false =>
                go_wp2_with fail
                go_ret
                exact ⟨ret_int (by have R := R0.out; simp only [reduceCtorEq, false_iff] at R; rw [E.out, if_neg (by rw [c3_iff]; have := Z.out; omega)]; rfl), rfl⟩
              | true =>
                go_wp2_with fail
                refine (in11 _ _ _ _).mono ?_
                rintro e w2 ⟨⟨r, rfl, hr⟩, hw⟩
                subst hw
                have R1 : Hid (r = true ↔ 128 ≤ (s[i + 2].toNat : Int) ∧ (s[i + 2].toNat : Int) ≤ 191) := hr
                clear hr
                cases r with
                | false =>
                  go_wp2_with fail
                  go_ret
                  exact ⟨ret_int (by have R := R1.out; simp only [reduceCtorEq, false_iff] at R; rw [E.out, if_neg (by rw [c3_iff]; have := Z.out; omega)]; rfl), rfl⟩
                | true =>
                  go_wp2_with fail
                  go_ret
                  exact ⟨ret_int (by have Q0 := R0.out; simp only [true_iff] at Q0; have Q1 := R1.out; simp only [true_iff] at Q1; rw [E.out, if_pos (by rw [c3_iff]; have := Z.out; omega)]; rfl), rfl⟩
            · have Z1 : Hid (¬ (s[i].toNat : Int) = 224) := z1
              have z2 : ((s[i].toNat : Int) == 224) = false := beq_eq_false_iff_ne.2 z1
              clear z1
              by_cases z1 : (s[i].toNat : Int) = 237
              · have Z : Hid ((s[i].toNat : Int) = 237) := z1
                have z3 : ((s[i].toNat : Int) == 237) = true := by simpa using z1
                clear z1
                go_enter Try.func10, Try.ntmps10
                go_wp2_with fail
                refine (in11 _ _ _ _).mono ?_
                rintro e w1 ⟨⟨r, rfl, hr⟩, hw⟩
                subst hw
                have R0 : Hid (r = true ↔ 128 ≤ (s[i + 1].toNat : Int) ∧ (s[i + 1].toNat : Int) ≤ 159) := hr
                clear hr
                cases r with
                | false =>
                  go_wp2_with fail
                  go_ret
                  exact ⟨ret_int (by have R := R0.out; simp only [reduceCtorEq, false_iff] at R; rw [E.out, if_neg (by rw [c3_iff]; have := Z.out; omega)]; rfl), rfl⟩
                | true =>
                  go_wp2_with fail
                  refine (in11 _ _ _ _).mono ?_
                  rintro e w2 ⟨⟨r, rfl, hr⟩, hw⟩
                  subst hw
                  have R1 : Hid (r = true ↔ 128 ≤ (s[i + 2].toNat : Int) ∧ (s[i + 2].toNat : Int) ≤ 191) := hr
                  clear hr
                  cases r with
                  | false =>
                    go_wp2_with fail
                    go_ret
                    exact ⟨ret_int (by have R := R1.out; simp only [reduceCtorEq, false_iff] at R; rw [E.out, if_neg (by rw [c3_iff]; have := Z.out; omega)]; rfl), rfl⟩
                  | true =>
                    go_wp2_with fail
                    go_ret
                    exact ⟨ret_int (by have Q0 := R0.out; simp only [true_iff] at Q0; have Q1 := R1.out; simp only [true_iff] at Q1; rw [E.out, if_pos (by rw [c3_iff]; have := Z.out; omega)]; rfl), rfl⟩
              · have Z : Hid (¬ (s[i].toNat : Int) = 237) := z1
                have z3 : ((s[i].toNat : Int) == 237) = false := beq_eq_false_iff_ne.2 z1
                clear z1
                go_enter Try.func10, Try.ntmps10
                go_wp2_with fail
                refine (in11 _ _ _ _).mono ?_
                rintro e w1 ⟨⟨r, rfl, hr⟩, hw⟩
                subst hw
                have R0 : Hid (r = true ↔ 128 ≤ (s[i + 1].toNat : Int) ∧ (s[i + 1].toNat : Int) ≤ 191) := hr
                clear hr
                cases r with
                | false =>
                  go_wp2_with fail
                  go_ret
                  exact ⟨ret_int (by have R := R0.out; simp only [reduceCtorEq, false_iff] at R; rw [E.out, if_neg (by rw [c3_iff]; have := Z.out; have := Z1.out; omega)]; rfl), rfl⟩
                | true =>
                  go_wp2_with fail
                  refine (in11 _ _ _ _).mono ?_
                  rintro e w2 ⟨⟨r, rfl, hr⟩, hw⟩
                  subst hw
                  have R1 : Hid (r = true ↔ 128 ≤ (s[i + 2].toNat : Int) ∧ (s[i + 2].toNat : Int) ≤ 191) := hr
                  clear hr
                  cases r with
                  | false =>
                    go_wp2_with fail
                    go_ret
                    exact ⟨ret_int (by have R := R1.out; simp only [reduceCtorEq, false_iff] at R; rw [E.out, if_neg (by rw [c3_iff]; have := Z.out; have := Z1.out; omega)]; rfl), rfl⟩
                  | true =>
                    go_wp2_with fail
                    go_ret
                    exact ⟨ret_int (by have Q0 := R0.out; simp only [true_iff] at Q0; have Q1 := R1.out; simp only [true_iff] at Q1; rw [E.out, if_pos (by rw [c3_iff]; have := Z.out; have := Z1.out; omega)]; rfl), rfl⟩
          · have E : Hid (wl (s.data.toList.drop i) = 1) := w_three_short s i hi (by omega) q5
            by_cases z1 : (s[i].toNat : Int) = 224
            · have z2 : ((s[i].toNat : Int) == 224) = true := by simpa using z1
              have z3 : ((s[i].toNat : Int) == 237) = false := beq_eq_false_iff_ne.2 (by omega)
              clear z1
              go_enter Try.func10, Try.ntmps10
              go_wp2_with fail
              all_goals (go_ret; exact ⟨ret_int (by rw [E.out]; rfl), rfl⟩)
            · have z2 : ((s[i].toNat : Int) == 224) = false := beq_eq_false_iff_ne.2 z1
              clear z1
              go_enter Try.func10, Try.ntmps10
              go_wp2_with fail
              all_goals (go_ret; exact ⟨ret_int (by rw [E.out]; rfl), rfl⟩)
      · have q5 : 240 ≤ (s[i].toNat : Int) := by omega
        clear q2' q2 q3
        by_cases h3 : i + 3 < s.size
        · have h1 : i + 1 < s.size := by omega
          have h2 : i + 2 < s.size := by omega
          have E : Hid (wl (s.data.toList.drop i) = if c4 s[i].toNat s[i + 1].toNat s[i + 2].toNat s[i + 3].toNat = true then 4 else 1) := w_four s i h3 q5
          by_cases z1 : (s[i].toNat : Int) = 240
          · have Z : Hid ((s[i].toNat : Int) = 240) := z1
            have z2 : ((s[i].toNat : Int) == 240) = true := by simpa using z1
            have z3 : ((s[i].toNat : Int) == 244) = false := beq_eq_false_iff_ne.2 (by omega)
            clear z1
            go_enter Try.func10, Try.ntmps10
            go_wp2_with fail
            refine (in11 _ _ _ _).mono ?_
            rintro e w1 ⟨⟨r, rfl, hr⟩, hw⟩
            subst hw
            have R0 : Hid (r = true ↔ 144 ≤ (s[i + 1].toNat : Int) ∧ (s[i + 1].toNat : Int) ≤ 191) := hr
            clear hr
            cases r with
            | false =>
              go_wp2_with fail
              go_ret
              exact ⟨ret_int (by have R := R0.out; simp only [reduceCtorEq, false_iff] at R; rw [E.out, if_neg (by rw [c4_iff]; have := Z.out; omega)]; rfl), rfl⟩
            | true =>
              go_wp2_with fail
              refine (in11 _ _ _ _).mono ?_
              rintro e w2 ⟨⟨r, rfl, hr⟩, hw⟩
              subst hw
              have R1 : Hid (r = true ↔ 128 ≤ (s[i + 2].toNat : Int) ∧ (s[i + 2].toNat : Int) ≤ 191) := hr
              clear hr
              cases r with
              | false =>
                go_wp2_with fail
                go_ret
                exact ⟨ret_int (by have R := R1.out; simp only [reduceCtorEq, false_iff] at R; rw [E.out, if_neg (by rw [c4_iff]; have := Z.out; omega)]; rfl), rfl⟩
              | true =>
                go_wp2_with fail
                refine (in11 _ _ _ _).mono ?_
                rintro e w3 ⟨⟨r, rfl, hr⟩, hw⟩
                subst hw
                have R2 : Hid (r = true ↔ 128 ≤ (s[i + 3].toNat : Int) ∧ (s[i + 3].toNat : Int) ≤ 191) := hr
                clear hr
                cases r with
                | false =>
                  go_wp2_with fail
                  go_ret
                  exact ⟨ret_int (by have R := R2.out; simp only [reduceCtorEq, false_iff] at R; rw [E.out, if_neg (by rw [c4_iff]; have := Z.out; omega)]; rfl), rfl⟩
                | true =>
                  go_wp2_with fail
                  go_ret
                  exact ⟨ret_int (by have Q0 := R0.out; simp only [true_iff] at Q0; have Q1 := R1.out; simp only [true_iff] at Q1; have Q2 := R2.out; simp only [true_iff] at Q2; rw [E.out, if_pos (by rw [c4_iff]; have := Z.out; omega)]; rfl), rfl⟩
          · have Z1 : Hid (¬ (s[i].toNat : Int) = 240) := z1
            have z2 : ((s[i].toNat : Int) == 240) = false := beq_eq_false_iff_ne.2 z1
            clear z1
            by_cases z1 : (s[i].toNat : Int) = 244
            · have Z : Hid ((s[i].toNat : Int) = 244) := z1
              have z3 : ((s[i].toNat : Int) == 244) = true := by simpa using z1
              clear z1
              go_enter Try.func10, Try.ntmps10
              go_wp2_with fail
              refine (in11 _ _ _ _).mono ?_
              rintro e w1 ⟨⟨r, rfl, hr⟩, hw⟩
              subst hw
              have R0 : Hid (r = true ↔ 128 ≤ (s[i + 1].toNat : Int) ∧ (s[i + 1].toNat : Int) ≤ 143) := hr
              clear hr
              cases r with
              | false =>
                go_wp2_with fail
                go_ret
                exact ⟨ret_int (by have R := R0.out; simp only [reduceCtorEq, false_iff] at R; rw [E.out, if_neg (by rw [c4_iff]; have := Z.out; omega)]; rfl), rfl⟩
              | true =>
                go_wp2_with fail
                refine (in11 _ _ _ _).mono ?_
                rintro e w2 ⟨⟨r, rfl, hr⟩, hw⟩
                subst hw
                have R1 : Hid (r = true ↔ 128 ≤ (s[i + 2].toNat : Int) ∧ (s[i + 2].toNat : Int) ≤ 191) := hr
                clear hr
                cases r with
                | false =>
                  go_wp2_with fail
                  go_ret
                  exact ⟨ret_int (by have R := R1.out; simp only [reduceCtorEq, false_iff] at R; rw [E.out, if_neg (by rw [c4_iff]; have := Z.out; omega)]; rfl), rfl⟩
                | true =>
                  go_wp2_with fail
                  refine (in11 _ _ _ _).mono ?_
                  rintro e w3 ⟨⟨r, rfl, hr⟩, hw⟩
                  subst hw
                  have R2 : Hid (r = true ↔ 128 ≤ (s[i + 3].toNat : Int) ∧ (s[i + 3].toNat : Int) ≤ 191) := hr
                  clear hr
                  cases r with
                  | false =>
                    go_wp2_with fail
                    go_ret
                    exact ⟨ret_int (by have R := R2.out; simp only [reduceCtorEq, false_iff] at R; rw [E.out, if_neg (by rw [c4_iff]; have := Z.out; omega)]; rfl), rfl⟩
                  | true =>
                    go_wp2_with fail
                    go_ret
                    exact ⟨ret_int (by have Q0 := R0.out; simp only [true_iff] at Q0; have Q1 := R1.out; simp only [true_iff] at Q1; have Q2 := R2.out; simp only [true_iff] at Q2; rw [E.out, if_pos (by rw [c4_iff]; have := Z.out; omega)]; rfl), rfl⟩
            · have Z : Hid (¬ (s[i].toNat : Int) = 244) := z1
              have z3 : ((s[i].toNat : Int) == 244) = false := beq_eq_false_iff_ne.2 z1
              clear z1
              go_enter Try.func10, Try.ntmps10
              go_wp2_with fail
              refine (in11 _ _ _ _).mono ?_
              rintro e w1 ⟨⟨r, rfl, hr⟩, hw⟩
              subst hw
              have R0 : Hid (r = true ↔ 128 ≤ (s[i + 1].toNat : Int) ∧ (s[i + 1].toNat : Int) ≤ 191) := hr
              clear hr
              cases r with
              | false =>
                go_wp2_with fail
                go_ret
                exact ⟨ret_int (by have R := R0.out; simp only [reduceCtorEq, false_iff] at R; rw [E.out, if_neg (by rw [c4_iff]; have := Z.out; have := Z1.out; omega)]; rfl), rfl⟩
              | true =>
                go_wp2_with fail
                refine (in11 _ _ _ _).mono ?_
                rintro e w2 ⟨⟨r, rfl, hr⟩, hw⟩
                subst hw
                have R1 : Hid (r = true ↔ 128 ≤ (s[i + 2].toNat : Int) ∧ (s[i + 2].toNat : Int) ≤ 191) := hr
                clear hr
                cases r with
                | false =>
                  go_wp2_with fail
                  go_ret
                  exact ⟨ret_int (by have R := R1.out; simp only [reduceCtorEq, false_iff] at R; rw [E.out, if_neg (by rw [c4_iff]; have := Z.out; have := Z1.out; omega)]; rfl), rfl⟩
                | true =>
                  go_wp2_with fail
                  refine (in11 _ _ _ _).mono ?_
                  rintro e w3 ⟨⟨r, rfl, hr⟩, hw⟩
                  subst hw
                  have R2 : Hid (r = true ↔ 128 ≤ (s[i + 3].toNat : Int) ∧ (s[i + 3].toNat : Int) ≤ 191) := hr
                  clear hr
                  cases r with
                  | false =>
                    go_wp2_with fail
                    go_ret
                    exact ⟨ret_int (by have R := R2.out; simp only [reduceCtorEq, false_iff] at R; rw [E.out, if_neg (by rw [c4_iff]; have := Z.out; have := Z1.out; omega)]; rfl), rfl⟩
                  | true =>
                    go_wp2_with fail
                    go_ret
                    exact ⟨ret_int (by have Q0 := R0.out; simp only [true_iff] at Q0; have Q1 := R1.out; simp only [true_iff] at Q1; have Q2 := R2.out; simp only [true_iff] at Q2; rw [E.out, if_pos (by rw [c4_iff]; have := Z.out; have := Z1.out; omega)]; rfl), rfl⟩
        · have E : Hid (wl (s.data.toList.drop i) = 1) := w_four_short s i hi (by omega) q5
          by_cases z1 : (s[i].toNat : Int) = 240
          · have z2 : ((s[i].toNat : Int) == 240) = true := by simpa using z1
            have z3 : ((s[i].toNat : Int) == 244) = false := beq_eq_false_iff_ne.2 (by omega)
            clear z1
            go_enter Try.func10, Try.ntmps10
            go_wp2_with fail
            all_goals (go_ret; exact ⟨ret_int (by rw [E.out]; rfl), rfl⟩)
          · have z2 : ((s[i].toNat : Int) == 240) = false := beq_eq_false_iff_ne.2 z1
            clear z1
            go_enter Try.func10, Try.ntmps10
            go_wp2_with fail
            all_goals (go_ret; exact ⟨ret_int (by rw [E.out]; rfl), rfl⟩)
end Go.Proofs.Qxb6627815a
