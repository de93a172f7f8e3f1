import Derived.Test.Qxb6627776aReader
namespace Go.Proofs.Qxb6627776a
open Go.RowKit

theorem scan_lt {D : Nat → Int} {i len : Nat} {md : Nat} {n d m : Int} (h : scan (seg D i len) md n d = some m) (hi : i ≤ len) : i < len := by
  rcases Nat.lt_or_ge i len with c | c
  · exact c
  · have e : i = len := by omega
    subst e
    rw [seg_self] at h; cases h
theorem scan_cons {D : Nat → Int} {i len : Nat} {md : Nat} {n d m : Int} (h : scan (seg D i len) md n d = some m) (hi : i < len) : scan (D i :: seg D (i + 1) len) md n d = some m := by
  rwa [seg_cons D i len hi] at h

set_option maxRecDepth 100000 in
set_option maxHeartbeats 8000000 in
theorem len_some (D : Nat → Int) (b off len cap B k s : Nat) (m : Int) (w : World) (hl : len ≤ 1048576) (hS : SkipR D len k s) (hs : s < len) (hR : Reader D b off len cap B k w)
    (ho : ((D s != 123) = false) ∨ ((D s != 123) = true ∧ (D s != 91) = false)) (hm : scan (seg D s len) 0 0 0 = some m) :
    Calls Try.prog 10 #[.pointer (some ⟨B, 0, none⟩)] w fun e w' => e = .returned (.int .i64 m) ∧ Reader D b off len cap B s w' ∧ Below B w w' := by
  have R0 : Hid (Reader D b off len cap B k w) := hR
  have S0 : Hid (SkipR D len k s) := hS
  have M0 : Hid (scan (seg D s len) 0 0 0 = some m) := hm
  clear hR hS hm
  rcases ho with o1 | ⟨o1, o2⟩
  all_goals
    go_enter Try.func10, Try.ntmps10
    go_wp2_with fail
    refine (next16 D b off len cap B k s w hl (by exact S0.out) hs (by exact R0.out)).mono ?_
    rintro e w1 ⟨rfl, hr, hb⟩
    have R1 : Hid (Reader D b off len cap B s w1) := hr
    have G1 : Hid (Below B w w1) := hb
    have hrd : Hid (Rd D b off len w1) := hr.2.2.2.2.2
    have hc0 := hr.2.2.1
    have hc1 := hr.2.2.2.1
    clear hr hb
    go_wp2_with fail
    go_loop [4, 5, 6] (fun n d i => ∃ (i0 : Nat) (n0 d0 : Int), s ≤ i0 ∧ i0 ≤ len ∧ 0 ≤ n0 ∧ n0 ≤ (i0 : Int) + 1 ∧ -(i0 : Int) ≤ d0 ∧ d0 ≤ (i0 : Int) ∧ n = .int .i64 n0 ∧ d = .int .i64 d0 ∧ i = .int .i64 i0 ∧ Hid (scan (seg D i0 len) 0 n0 d0 = some m)) (fun _ _ i => len - (intOf i).toNat)
    case atStart => exact ⟨s, 0, 0, Nat.le_refl _, by omega, by omega, by omega, by omega, by omega, rfl, rfl, rfl, M0.out⟩
    case round =>
      obtain ⟨i0, n0, d0, h1, h2, h3, h4, h5, h6, rfl, rfl, rfl, HS⟩ := hrel
      have hi : i0 < len := scan_lt HS.out h2
      have hcd := hrd.out i0 hi
      by_cases hd : d0 = 1
      · subst hd
        by_cases hn : n0 = 0
        · subst hn
          by_cases z34 : D i0 = 34
          · have E : Hid (D i0 = 34) := z34
            clear z34
            have hw : wsB (D i0) = false := by rw [E.out]; rfl
            have e34 : (D i0 == 34) = true := by rw [E.out]; rfl
            have e123 : (D i0 == 123) = false := by rw [E.out]; rfl
            have e91 : (D i0 == 91) = false := by rw [E.out]; rfl
            have e125 : (D i0 == 125) = false := by rw [E.out]; rfl
            have e93 : (D i0 == 93) = false := by rw [E.out]; rfl
            have e44 : (D i0 == 44) = false := by rw [E.out]; rfl
            have n125 : (D i0 != 125) = true := by rw [E.out]; rfl
            have n93 : (D i0 != 93) = true := by rw [E.out]; rfl
            have be : bump 0 1 = 1 := (by rfl)
            have N : Hid (scan (seg D (i0 + 1) len) 1 1 1 = some m) := by show _ = _; have h := scan_cons HS.out hi; rw [E.out, sc_quote, be] at h; exact h
            clear be
            go_wp2_with (go_at_call 17; refine (ws17 _ _).mono ?_; rintro e wz ⟨rfl, rfl⟩)
            go_loop [6] (fun i => ∃ j : Nat, i0 + 1 ≤ j ∧ j ≤ len ∧ i = .int .i64 j ∧ Hid (scan (seg D j len) 1 1 1 = some m)) (fun i => len - (intOf i).toNat)
            case atStart => exact ⟨i0 + 1, Nat.le_refl _, hi, by go_num, N.out⟩
            case round =>
              obtain ⟨j, j1, j2, rfl, HJ⟩ := hrel
              have hj : j < len := scan_lt HJ.out j2
              have hjc := hrd.out j hj
              cases q1 : (D j == 34) with
              | true =>
                have Q1 : Hid (D j = 34) := (by simpa using q1 : D j = 34)
                have q1' : (D j != 34) = false := by rw [Q1.out]; rfl
                have N2 : Hid (scan (seg D (j + 1) len) 0 1 1 = some m) := by show _ = _; have h := scan_cons HJ.out hj; rw [Q1.out, sc_inend] at h; exact h
                go_wp2
                go_round
                case rel => exact ⟨j + 1, 1, 1, by omega, by omega, by omega, by omega, by omega, by omega, rfl, rfl, by go_num, N2.out⟩
                case measure => simp [intOf]; omega
              | false =>
                have Q1 : Hid (D j ≠ 34) := (by simpa using q1 : D j ≠ 34)
                have q1' : (D j != 34) = true := by rw [bne_iff_ne]; exact Q1.out
                cases q2 : (D j == 92) with
                | true =>
                  have Q2 : Hid (D j = 92) := (by simpa using q2 : D j = 92)
                  have N2 : Hid (scan (seg D (j + 1) len) 2 1 1 = some m) := by show _ = _; have h := scan_cons HJ.out hj; rw [Q2.out, sc_esc] at h; exact h
                  have hj2 : j + 1 < len := scan_lt N2.out hj
                  have N3 : Hid (scan (seg D (j + 2) len) 1 1 1 = some m) := by show _ = _; have h := scan_cons N2.out hj2; rw [sc_esc2] at h; exact h
                  go_wp2
                  go_round
                  case rel => exact ⟨j + 2, by omega, by omega, by go_num, N3.out⟩
                  case measure => simp [intOf]; omega
                | false =>
                  have Q2 : Hid (D j ≠ 92) := (by simpa using q2 : D j ≠ 92)
                  have N2 : Hid (scan (seg D (j + 1) len) 1 1 1 = some m) := by show _ = _; have h := scan_cons HJ.out hj; rw [sc_in _ _ _ _ Q1.out Q2.out] at h; exact h
                  go_wp2
                  go_round
                  case rel => exact ⟨j + 1, by omega, by omega, by go_num, N2.out⟩
                  case measure => simp [intOf]; omega
          by_cases z123 : D i0 = 123
          · have E : Hid (D i0 = 123) := z123
            clear z34 z123
            have hw : wsB (D i0) = false := by rw [E.out]; rfl
            have e34 : (D i0 == 34) = false := by rw [E.out]; rfl
            have e123 : (D i0 == 123) = true := by rw [E.out]; rfl
            have e91 : (D i0 == 91) = false := by rw [E.out]; rfl
            have e125 : (D i0 == 125) = false := by rw [E.out]; rfl
            have e93 : (D i0 == 93) = false := by rw [E.out]; rfl
            have e44 : (D i0 == 44) = false := by rw [E.out]; rfl
            have n125 : (D i0 != 125) = true := by rw [E.out]; rfl
            have n93 : (D i0 != 93) = true := by rw [E.out]; rfl
            have be : bump 0 1 = 1 := (by rfl)
            have N : Hid (scan (seg D (i0 + 1) len) 0 1 (1 + 1) = some m) := by show _ = _; have h := scan_cons HS.out hi; rw [sc_open _ _ _ _ (by have := E.out; omega), be] at h; exact h
            clear be
            go_wp2_with (go_at_call 17; refine (ws17 _ _).mono ?_; rintro e wz ⟨rfl, rfl⟩)
            go_round
            case rel => exact ⟨i0 + 1, 1, 1 + 1, by omega, by omega, by omega, by omega, by omega, by omega, by go_num, by go_num, by go_num, N.out⟩
            case measure => simp [intOf]; omega
          by_cases z91 : D i0 = 91
          · have E : Hid (D i0 = 91) := z91
            clear z34 z123 z91
            have hw : wsB (D i0) = false := by rw [E.out]; rfl
            have e34 : (D i0 == 34) = false := by rw [E.out]; rfl
            have e123 : (D i0 == 123) = false := by rw [E.out]; rfl
            have e91 : (D i0 == 91) = true := by rw [E.out]; rfl
            have e125 : (D i0 == 125) = false := by rw [E.out]; rfl
            have e93 : (D i0 == 93) = false := by rw [E.out]; rfl
            have e44 : (D i0 == 44) = false := by rw [E.out]; rfl
            have n125 : (D i0 != 125) = true := by rw [E.out]; rfl
            have n93 : (D i0 != 93) = true := by rw [E.out]; rfl
            have be : bump 0 1 = 1 := (by rfl)
            have N : Hid (scan (seg D (i0 + 1) len) 0 1 (1 + 1) = some m) := by show _ = _; have h := scan_cons HS.out hi; rw [sc_open _ _ _ _ (by have := E.out; omega), be] at h; exact h
            clear be
            go_wp2_with (go_at_call 17; refine (ws17 _ _).mono ?_; rintro e wz ⟨rfl, rfl⟩)
            go_round
            case rel => exact ⟨i0 + 1, 1, 1 + 1, by omega, by omega, by omega, by omega, by omega, by omega, by go_num, by go_num, by go_num, N.out⟩
            case measure => simp [intOf]; omega
          by_cases z125 : D i0 = 125
          · have E : Hid (D i0 = 125) := z125
            clear z34 z123 z91 z125
            have hw : wsB (D i0) = false := by rw [E.out]; rfl
            have e34 : (D i0 == 34) = false := by rw [E.out]; rfl
            have e123 : (D i0 == 123) = false := by rw [E.out]; rfl
            have e91 : (D i0 == 91) = false := by rw [E.out]; rfl
            have e125 : (D i0 == 125) = true := by rw [E.out]; rfl
            have e93 : (D i0 == 93) = false := by rw [E.out]; rfl
            have e44 : (D i0 == 44) = false := by rw [E.out]; rfl
            have n125 : (D i0 != 125) = false := by rw [E.out]; rfl
            have n93 : (D i0 != 93) = true := by rw [E.out]; rfl
            have N : Hid (0 = m) := by show _ = _; have h := scan_cons HS.out hi; rw [sc_end _ _ _ (by have := E.out; omega)] at h; exact Option.some.inj h
            go_wp2_with (go_at_call 17; refine (ws17 _ _).mono ?_; rintro e wz ⟨rfl, rfl⟩)
            go_ret
            exact ⟨ret_int N.out, R1.out, G1.out⟩
          by_cases z93 : D i0 = 93
          · have E : Hid (D i0 = 93) := z93
            clear z34 z123 z91 z125 z93
            have hw : wsB (D i0) = false := by rw [E.out]; rfl
            have e34 : (D i0 == 34) = false := by rw [E.out]; rfl
            have e123 : (D i0 == 123) = false := by rw [E.out]; rfl
            have e91 : (D i0 == 91) = false := by rw [E.out]; rfl
            have e125 : (D i0 == 125) = false := by rw [E.out]; rfl
            have e93 : (D i0 == 93) = true := by rw [E.out]; rfl
            have e44 : (D i0 == 44) = false := by rw [E.out]; rfl
            have n125 : (D i0 != 125) = true := by rw [E.out]; rfl
            have n93 : (D i0 != 93) = false := by rw [E.out]; rfl
            have N : Hid (0 = m) := by show _ = _; have h := scan_cons HS.out hi; rw [sc_end _ _ _ (by have := E.out; omega)] at h; exact Option.some.inj h
            go_wp2_with (go_at_call 17; refine (ws17 _ _).mono ?_; rintro e wz ⟨rfl, rfl⟩)
            go_ret
            exact ⟨ret_int N.out, R1.out, G1.out⟩
          by_cases z44 : D i0 = 44
          · have E : Hid (D i0 = 44) := z44
            clear z34 z123 z91 z125 z93 z44
            have hw : wsB (D i0) = false := by rw [E.out]; rfl
            have e34 : (D i0 == 34) = false := by rw [E.out]; rfl
            have e123 : (D i0 == 123) = false := by rw [E.out]; rfl
            have e91 : (D i0 == 91) = false := by rw [E.out]; rfl
            have e125 : (D i0 == 125) = false := by rw [E.out]; rfl
            have e93 : (D i0 == 93) = false := by rw [E.out]; rfl
            have e44 : (D i0 == 44) = true := by rw [E.out]; rfl
            have n125 : (D i0 != 125) = true := by rw [E.out]; rfl
            have n93 : (D i0 != 93) = true := by rw [E.out]; rfl
            have be : bump 0 1 = 1 := (by rfl)
            have N : Hid (scan (seg D (i0 + 1) len) 0 (1 + 1) 1 = some m) := by show _ = _; have h := scan_cons HS.out hi; rw [E.out, sc_comma1 _ _, be] at h; exact h
            clear be
            go_wp2_with (go_at_call 17; refine (ws17 _ _).mono ?_; rintro e wz ⟨rfl, rfl⟩)
            go_round
            case rel => exact ⟨i0 + 1, 1 + 1, 1, by omega, by omega, by omega, by omega, by omega, by omega, by go_num, by go_num, by go_num, N.out⟩
            case measure => simp [intOf]; omega
          cases hw : wsB (D i0) with
          | true =>
            clear z34 z123 z91 z125 z93 z44
            have W : Hid (D i0 = 32 ∨ D i0 = 9 ∨ D i0 = 13 ∨ D i0 = 10) := (wsB_iff _).1 hw
            have e34 : (D i0 == 34) = false := by have := W.out; rw [beq_eq_false_iff_ne]; omega
            have e123 : (D i0 == 123) = false := by have := W.out; rw [beq_eq_false_iff_ne]; omega
            have e91 : (D i0 == 91) = false := by have := W.out; rw [beq_eq_false_iff_ne]; omega
            have e125 : (D i0 == 125) = false := by have := W.out; rw [beq_eq_false_iff_ne]; omega
            have e93 : (D i0 == 93) = false := by have := W.out; rw [beq_eq_false_iff_ne]; omega
            have e44 : (D i0 == 44) = false := by have := W.out; rw [beq_eq_false_iff_ne]; omega
            have n125 : (D i0 != 125) = true := by have := W.out; rw [bne_iff_ne]; omega
            have n93 : (D i0 != 93) = true := by have := W.out; rw [bne_iff_ne]; omega
            have N : Hid (scan (seg D (i0 + 1) len) 0 0 1 = some m) := by show _ = _; have h := scan_cons HS.out hi; rw [sc_ws _ _ _ _ hw] at h; exact h
            go_wp2_with (go_at_call 17; refine (ws17 _ _).mono ?_; rintro e wz ⟨rfl, rfl⟩)
            go_round
            case rel => exact ⟨i0 + 1, 0, 1, by omega, by omega, by omega, by omega, by omega, by omega, by go_num, by go_num, by go_num, N.out⟩
            case measure => simp [intOf]; omega
          | false =>
            have E : Hid (plB (D i0) = true) := (plB_iff _).2 ⟨hw, z34, z123, z91, z125, z93, z44⟩
            have e34 : (D i0 == 34) = false := beq_eq_false_iff_ne.2 z34
            have e123 : (D i0 == 123) = false := beq_eq_false_iff_ne.2 z123
            have e91 : (D i0 == 91) = false := beq_eq_false_iff_ne.2 z91
            have e125 : (D i0 == 125) = false := beq_eq_false_iff_ne.2 z125
            have e93 : (D i0 == 93) = false := beq_eq_false_iff_ne.2 z93
            have e44 : (D i0 == 44) = false := beq_eq_false_iff_ne.2 z44
            have n125 : (D i0 != 125) = true := bne_iff_ne.2 z125
            have n93 : (D i0 != 93) = true := bne_iff_ne.2 z93
            clear z34 z123 z91 z125 z93 z44
            have be : bump 0 1 = 1 := (by rfl)
            have N : Hid (scan (seg D (i0 + 1) len) 0 1 1 = some m) := by show _ = _; have h := scan_cons HS.out hi; rw [sc_pl _ _ _ _ E.out, be] at h; exact h
            clear be
            go_wp2_with (go_at_call 17; refine (ws17 _ _).mono ?_; rintro e wz ⟨rfl, rfl⟩)
            go_round
            case rel => exact ⟨i0 + 1, 1, 1, by omega, by omega, by omega, by omega, by omega, by omega, by go_num, by go_num, by go_num, N.out⟩
            case measure => simp [intOf]; omega
        · have gn : (n0 == 0) = false := beq_eq_false_iff_ne.2 hn
          have HN : Hid (n0 ≠ 0) := hn
          clear hn
          by_cases z34 : D i0 = 34
          · have E : Hid (D i0 = 34) := z34
            clear z34
            have hw : wsB (D i0) = false := by rw [E.out]; rfl
            have e34 : (D i0 == 34) = true := by rw [E.out]; rfl
            have e123 : (D i0 == 123) = false := by rw [E.out]; rfl
            have e91 : (D i0 == 91) = false := by rw [E.out]; rfl
            have e125 : (D i0 == 125) = false := by rw [E.out]; rfl
            have e93 : (D i0 == 93) = false := by rw [E.out]; rfl
            have e44 : (D i0 == 44) = false := by rw [E.out]; rfl
            have n125 : (D i0 != 125) = true := by rw [E.out]; rfl
            have n93 : (D i0 != 93) = true := by rw [E.out]; rfl
            have be : bump n0 1 = n0 := (by unfold bump; rw [if_neg (by have := HN.out; omega)])
            have N : Hid (scan (seg D (i0 + 1) len) 1 n0 1 = some m) := by show _ = _; have h := scan_cons HS.out hi; rw [E.out, sc_quote, be] at h; exact h
            clear be
            go_wp2_with (go_at_call 17; refine (ws17 _ _).mono ?_; rintro e wz ⟨rfl, rfl⟩)
            go_loop [6] (fun i => ∃ j : Nat, i0 + 1 ≤ j ∧ j ≤ len ∧ i = .int .i64 j ∧ Hid (scan (seg D j len) 1 n0 1 = some m)) (fun i => len - (intOf i).toNat)
            case atStart => exact ⟨i0 + 1, Nat.le_refl _, hi, by go_num, N.out⟩
            case round =>
              obtain ⟨j, j1, j2, rfl, HJ⟩ := hrel
              have hj : j < len := scan_lt HJ.out j2
              have hjc := hrd.out j hj
              cases q1 : (D j == 34) with
              | true =>
                have Q1 : Hid (D j = 34) := (by simpa using q1 : D j = 34)
                have q1' : (D j != 34) = false := by rw [Q1.out]; rfl
                have N2 : Hid (scan (seg D (j + 1) len) 0 n0 1 = some m) := by show _ = _; have h := scan_cons HJ.out hj; rw [Q1.out, sc_inend] at h; exact h
                go_wp2
                go_round
                case rel => exact ⟨j + 1, n0, 1, by omega, by omega, by omega, by omega, by omega, by omega, rfl, rfl, by go_num, N2.out⟩
                case measure => simp [intOf]; omega
              | false =>
                have Q1 : Hid (D j ≠ 34) := (by simpa using q1 : D j ≠ 34)
                have q1' : (D j != 34) = true := by rw [bne_iff_ne]; exact Q1.out
                cases q2 : (D j == 92) with
                | true =>
                  have Q2 : Hid (D j = 92) := (by simpa using q2 : D j = 92)
                  have N2 : Hid (scan (seg D (j + 1) len) 2 n0 1 = some m) := by show _ = _; have h := scan_cons HJ.out hj; rw [Q2.out, sc_esc] at h; exact h
                  have hj2 : j + 1 < len := scan_lt N2.out hj
                  have N3 : Hid (scan (seg D (j + 2) len) 1 n0 1 = some m) := by show _ = _; have h := scan_cons N2.out hj2; rw [sc_esc2] at h; exact h
                  go_wp2
                  go_round
                  case rel => exact ⟨j + 2, by omega, by omega, by go_num, N3.out⟩
                  case measure => simp [intOf]; omega
                | false =>
                  have Q2 : Hid (D j ≠ 92) := (by simpa using q2 : D j ≠ 92)
                  have N2 : Hid (scan (seg D (j + 1) len) 1 n0 1 = some m) := by show _ = _; have h := scan_cons HJ.out hj; rw [sc_in _ _ _ _ Q1.out Q2.out] at h; exact h
                  go_wp2
                  go_round
                  case rel => exact ⟨j + 1, by omega, by omega, by go_num, N2.out⟩
                  case measure => simp [intOf]; omega
          by_cases z123 : D i0 = 123
          · have E : Hid (D i0 = 123) := z123
            clear z34 z123
            have hw : wsB (D i0) = false := by rw [E.out]; rfl
            have e34 : (D i0 == 34) = false := by rw [E.out]; rfl
            have e123 : (D i0 == 123) = true := by rw [E.out]; rfl
            have e91 : (D i0 == 91) = false := by rw [E.out]; rfl
            have e125 : (D i0 == 125) = false := by rw [E.out]; rfl
            have e93 : (D i0 == 93) = false := by rw [E.out]; rfl
            have e44 : (D i0 == 44) = false := by rw [E.out]; rfl
            have n125 : (D i0 != 125) = true := by rw [E.out]; rfl
            have n93 : (D i0 != 93) = true := by rw [E.out]; rfl
            have be : bump n0 1 = n0 := (by unfold bump; rw [if_neg (by have := HN.out; omega)])
            have N : Hid (scan (seg D (i0 + 1) len) 0 n0 (1 + 1) = some m) := by show _ = _; have h := scan_cons HS.out hi; rw [sc_open _ _ _ _ (by have := E.out; omega), be] at h; exact h
            clear be
            go_wp2_with (go_at_call 17; refine (ws17 _ _).mono ?_; rintro e wz ⟨rfl, rfl⟩)
            go_round
            case rel => exact ⟨i0 + 1, n0, 1 + 1, by omega, by omega, by omega, by omega, by omega, by omega, by go_num, by go_num, by go_num, N.out⟩
            case measure => simp [intOf]; omega
          by_cases z91 : D i0 = 91
          · have E : Hid (D i0 = 91) := z91
            clear z34 z123 z91
            have hw : wsB (D i0) = false := by rw [E.out]; rfl
            have e34 : (D i0 == 34) = false := by rw [E.out]; rfl
            have e123 : (D i0 == 123) = false := by rw [E.out]; rfl
            have e91 : (D i0 == 91) = true := by rw [E.out]; rfl
            have e125 : (D i0 == 125) = false := by rw [E.out]; rfl
            have e93 : (D i0 == 93) = false := by rw [E.out]; rfl
            have e44 : (D i0 == 44) = false := by rw [E.out]; rfl
            have n125 : (D i0 != 125) = true := by rw [E.out]; rfl
            have n93 : (D i0 != 93) = true := by rw [E.out]; rfl
            have be : bump n0 1 = n0 := (by unfold bump; rw [if_neg (by have := HN.out; omega)])
            have N : Hid (scan (seg D (i0 + 1) len) 0 n0 (1 + 1) = some m) := by show _ = _; have h := scan_cons HS.out hi; rw [sc_open _ _ _ _ (by have := E.out; omega), be] at h; exact h
            clear be
            go_wp2_with (go_at_call 17; refine (ws17 _ _).mono ?_; rintro e wz ⟨rfl, rfl⟩)
            go_round
            case rel => exact ⟨i0 + 1, n0, 1 + 1, by omega, by omega, by omega, by omega, by omega, by omega, by go_num, by go_num, by go_num, N.out⟩
            case measure => simp [intOf]; omega
          by_cases z125 : D i0 = 125
          · have E : Hid (D i0 = 125) := z125
            clear z34 z123 z91 z125
            have hw : wsB (D i0) = false := by rw [E.out]; rfl
            have e34 : (D i0 == 34) = false := by rw [E.out]; rfl
            have e123 : (D i0 == 123) = false := by rw [E.out]; rfl
            have e91 : (D i0 == 91) = false := by rw [E.out]; rfl
            have e125 : (D i0 == 125) = true := by rw [E.out]; rfl
            have e93 : (D i0 == 93) = false := by rw [E.out]; rfl
            have e44 : (D i0 == 44) = false := by rw [E.out]; rfl
            have n125 : (D i0 != 125) = false := by rw [E.out]; rfl
            have n93 : (D i0 != 93) = true := by rw [E.out]; rfl
            have N : Hid (n0 = m) := by show _ = _; have h := scan_cons HS.out hi; rw [sc_end _ _ _ (by have := E.out; omega)] at h; exact Option.some.inj h
            go_wp2_with (go_at_call 17; refine (ws17 _ _).mono ?_; rintro e wz ⟨rfl, rfl⟩)
            go_ret
            exact ⟨ret_int N.out, R1.out, G1.out⟩
          by_cases z93 : D i0 = 93
          · have E : Hid (D i0 = 93) := z93
            clear z34 z123 z91 z125 z93
            have hw : wsB (D i0) = false := by rw [E.out]; rfl
            have e34 : (D i0 == 34) = false := by rw [E.out]; rfl
            have e123 : (D i0 == 123) = false := by rw [E.out]; rfl
            have e91 : (D i0 == 91) = false := by rw [E.out]; rfl
            have e125 : (D i0 == 125) = false := by rw [E.out]; rfl
            have e93 : (D i0 == 93) = true := by rw [E.out]; rfl
            have e44 : (D i0 == 44) = false := by rw [E.out]; rfl
            have n125 : (D i0 != 125) = true := by rw [E.out]; rfl
            have n93 : (D i0 != 93) = false := by rw [E.out]; rfl
            have N : Hid (n0 = m) := by show _ = _; have h := scan_cons HS.out hi; rw [sc_end _ _ _ (by have := E.out; omega)] at h; exact Option.some.inj h
            go_wp2_with (go_at_call 17; refine (ws17 _ _).mono ?_; rintro e wz ⟨rfl, rfl⟩)
            go_ret
            exact ⟨ret_int N.out, R1.out, G1.out⟩
          by_cases z44 : D i0 = 44
          · have E : Hid (D i0 = 44) := z44
            clear z34 z123 z91 z125 z93 z44
            have hw : wsB (D i0) = false := by rw [E.out]; rfl
            have e34 : (D i0 == 34) = false := by rw [E.out]; rfl
            have e123 : (D i0 == 123) = false := by rw [E.out]; rfl
            have e91 : (D i0 == 91) = false := by rw [E.out]; rfl
            have e125 : (D i0 == 125) = false := by rw [E.out]; rfl
            have e93 : (D i0 == 93) = false := by rw [E.out]; rfl
            have e44 : (D i0 == 44) = true := by rw [E.out]; rfl
            have n125 : (D i0 != 125) = true := by rw [E.out]; rfl
            have n93 : (D i0 != 93) = true := by rw [E.out]; rfl
            have be : bump n0 1 = n0 := (by unfold bump; rw [if_neg (by have := HN.out; omega)])
            have N : Hid (scan (seg D (i0 + 1) len) 0 (n0 + 1) 1 = some m) := by show _ = _; have h := scan_cons HS.out hi; rw [E.out, sc_comma1 _ _, be] at h; exact h
            clear be
            go_wp2_with (go_at_call 17; refine (ws17 _ _).mono ?_; rintro e wz ⟨rfl, rfl⟩)
            go_round
            case rel => exact ⟨i0 + 1, n0 + 1, 1, by omega, by omega, by omega, by omega, by omega, by omega, by go_num, by go_num, by go_num, N.out⟩
            case measure => simp [intOf]; omega
          cases hw : wsB (D i0) with
          | true =>
            clear z34 z123 z91 z125 z93 z44
            have W : Hid (D i0 = 32 ∨ D i0 = 9 ∨ D i0 = 13 ∨ D i0 = 10) := (wsB_iff _).1 hw
            have e34 : (D i0 == 34) = false := by have := W.out; rw [beq_eq_false_iff_ne]; omega
            have e123 : (D i0 == 123) = false := by have := W.out; rw [beq_eq_false_iff_ne]; omega
            have e91 : (D i0 == 91) = false := by have := W.out; rw [beq_eq_false_iff_ne]; omega
            have e125 : (D i0 == 125) = false := by have := W.out; rw [beq_eq_false_iff_ne]; omega
            have e93 : (D i0 == 93) = false := by have := W.out; rw [beq_eq_false_iff_ne]; omega
            have e44 : (D i0 == 44) = false := by have := W.out; rw [beq_eq_false_iff_ne]; omega
            have n125 : (D i0 != 125) = true := by have := W.out; rw [bne_iff_ne]; omega
            have n93 : (D i0 != 93) = true := by have := W.out; rw [bne_iff_ne]; omega
            have N : Hid (scan (seg D (i0 + 1) len) 0 n0 1 = some m) := by show _ = _; have h := scan_cons HS.out hi; rw [sc_ws _ _ _ _ hw] at h; exact h
            go_wp2_with (go_at_call 17; refine (ws17 _ _).mono ?_; rintro e wz ⟨rfl, rfl⟩)
            go_round
            case rel => exact ⟨i0 + 1, n0, 1, by omega, by omega, by omega, by omega, by omega, by omega, by go_num, by go_num, by go_num, N.out⟩
            case measure => simp [intOf]; omega
          | false =>
            have E : Hid (plB (D i0) = true) := (plB_iff _).2 ⟨hw, z34, z123, z91, z125, z93, z44⟩
            have e34 : (D i0 == 34) = false := beq_eq_false_iff_ne.2 z34
            have e123 : (D i0 == 123) = false := beq_eq_false_iff_ne.2 z123
            have e91 : (D i0 == 91) = false := beq_eq_false_iff_ne.2 z91
            have e125 : (D i0 == 125) = false := beq_eq_false_iff_ne.2 z125
            have e93 : (D i0 == 93) = false := beq_eq_false_iff_ne.2 z93
            have e44 : (D i0 == 44) = false := beq_eq_false_iff_ne.2 z44
            have n125 : (D i0 != 125) = true := bne_iff_ne.2 z125
            have n93 : (D i0 != 93) = true := bne_iff_ne.2 z93
            clear z34 z123 z91 z125 z93 z44
            have be : bump n0 1 = n0 := (by unfold bump; rw [if_neg (by have := HN.out; omega)])
            have N : Hid (scan (seg D (i0 + 1) len) 0 n0 1 = some m) := by show _ = _; have h := scan_cons HS.out hi; rw [sc_pl _ _ _ _ E.out, be] at h; exact h
            clear be
            go_wp2_with (go_at_call 17; refine (ws17 _ _).mono ?_; rintro e wz ⟨rfl, rfl⟩)
            go_round
            case rel => exact ⟨i0 + 1, n0, 1, by omega, by omega, by omega, by omega, by omega, by omega, by go_num, by go_num, by go_num, N.out⟩
            case measure => simp [intOf]; omega
      · have gd : (d0 == 1) = false := beq_eq_false_iff_ne.2 hd
        have gd2 : (d0 - 1 == 0) = false := beq_eq_false_iff_ne.2 (by omega)
        have E1 : Hid (d0 ≠ 1) := hd
        clear hd
        by_cases z34 : D i0 = 34
        · have E : Hid (D i0 = 34) := z34
          clear z34
          have hw : wsB (D i0) = false := by rw [E.out]; rfl
          have e34 : (D i0 == 34) = true := by rw [E.out]; rfl
          have e123 : (D i0 == 123) = false := by rw [E.out]; rfl
          have e91 : (D i0 == 91) = false := by rw [E.out]; rfl
          have e125 : (D i0 == 125) = false := by rw [E.out]; rfl
          have e93 : (D i0 == 93) = false := by rw [E.out]; rfl
          have e44 : (D i0 == 44) = false := by rw [E.out]; rfl
          have n125 : (D i0 != 125) = true := by rw [E.out]; rfl
          have n93 : (D i0 != 93) = true := by rw [E.out]; rfl
          have be : bump n0 d0 = n0 := (by unfold bump; rw [if_neg (by have := E1.out; omega)])
          have N : Hid (scan (seg D (i0 + 1) len) 1 n0 d0 = some m) := by show _ = _; have h := scan_cons HS.out hi; rw [E.out, sc_quote, be] at h; exact h
          clear be
          go_wp2_with (go_at_call 17; refine (ws17 _ _).mono ?_; rintro e wz ⟨rfl, rfl⟩)
          go_loop [6] (fun i => ∃ j : Nat, i0 + 1 ≤ j ∧ j ≤ len ∧ i = .int .i64 j ∧ Hid (scan (seg D j len) 1 n0 d0 = some m)) (fun i => len - (intOf i).toNat)
          case atStart => exact ⟨i0 + 1, Nat.le_refl _, hi, by go_num, N.out⟩
          case round =>
            obtain ⟨j, j1, j2, rfl, HJ⟩ := hrel
            have hj : j < len := scan_lt HJ.out j2
            have hjc := hrd.out j hj
            cases q1 : (D j == 34) with
            | true =>
              have Q1 : Hid (D j = 34) := (by simpa using q1 : D j = 34)
              have q1' : (D j != 34) = false := by rw [Q1.out]; rfl
              have N2 : Hid (scan (seg D (j + 1) len) 0 n0 d0 = some m) := by show _ = _; have h := scan_cons HJ.out hj; rw [Q1.out, sc_inend] at h; exact h
              go_wp2
              go_round
              case rel => exact ⟨j + 1, n0, d0, by omega, by omega, by omega, by omega, by omega, by omega, rfl, rfl, by go_num, N2.out⟩
              case measure => simp [intOf]; omega
            | false =>
              have Q1 : Hid (D j ≠ 34) := (by simpa using q1 : D j ≠ 34)
              have q1' : (D j != 34) = true := by rw [bne_iff_ne]; exact Q1.out
              cases q2 : (D j == 92) with
              | true =>
                have Q2 : Hid (D j = 92) := (by simpa using q2 : D j = 92)
                have N2 : Hid (scan (seg D (j + 1) len) 2 n0 d0 = some m) := by show _ = _; have h := scan_cons HJ.out hj; rw [Q2.out, sc_esc] at h; exact h
                have hj2 : j + 1 < len := scan_lt N2.out hj
                have N3 : Hid (scan (seg D (j + 2) len) 1 n0 d0 = some m) := by show _ = _; have h := scan_cons N2.out hj2; rw [sc_esc2] at h; exact h
                go_wp2
                go_round
                case rel => exact ⟨j + 2, by omega, by omega, by go_num, N3.out⟩
                case measure => simp [intOf]; omega
              | false =>
                have Q2 : Hid (D j ≠ 92) := (by simpa using q2 : D j ≠ 92)
                have N2 : Hid (scan (seg D (j + 1) len) 1 n0 d0 = some m) := by show _ = _; have h := scan_cons HJ.out hj; rw [sc_in _ _ _ _ Q1.out Q2.out] at h; exact h
                go_wp2
                go_round
                case rel => exact ⟨j + 1, by omega, by omega, by go_num, N2.out⟩
                case measure => simp [intOf]; omega
        by_cases z123 : D i0 = 123
        · have E : Hid (D i0 = 123) := z123
          clear z34 z123
          have hw : wsB (D i0) = false := by rw [E.out]; rfl
          have e34 : (D i0 == 34) = false := by rw [E.out]; rfl
          have e123 : (D i0 == 123) = true := by rw [E.out]; rfl
          have e91 : (D i0 == 91) = false := by rw [E.out]; rfl
          have e125 : (D i0 == 125) = false := by rw [E.out]; rfl
          have e93 : (D i0 == 93) = false := by rw [E.out]; rfl
          have e44 : (D i0 == 44) = false := by rw [E.out]; rfl
          have n125 : (D i0 != 125) = true := by rw [E.out]; rfl
          have n93 : (D i0 != 93) = true := by rw [E.out]; rfl
          have be : bump n0 d0 = n0 := (by unfold bump; rw [if_neg (by have := E1.out; omega)])
          have N : Hid (scan (seg D (i0 + 1) len) 0 n0 (d0 + 1) = some m) := by show _ = _; have h := scan_cons HS.out hi; rw [sc_open _ _ _ _ (by have := E.out; omega), be] at h; exact h
          clear be
          go_wp2_with (go_at_call 17; refine (ws17 _ _).mono ?_; rintro e wz ⟨rfl, rfl⟩)
          go_round
          case rel => exact ⟨i0 + 1, n0, d0 + 1, by omega, by omega, by omega, by omega, by omega, by omega, by go_num, by go_num, by go_num, N.out⟩
          case measure => simp [intOf]; omega
        by_cases z91 : D i0 = 91
        · have E : Hid (D i0 = 91) := z91
          clear z34 z123 z91
          have hw : wsB (D i0) = false := by rw [E.out]; rfl
          have e34 : (D i0 == 34) = false := by rw [E.out]; rfl
          have e123 : (D i0 == 123) = false := by rw [E.out]; rfl
          have e91 : (D i0 == 91) = true := by rw [E.out]; rfl
          have e125 : (D i0 == 125) = false := by rw [E.out]; rfl
          have e93 : (D i0 == 93) = false := by rw [E.out]; rfl
          have e44 : (D i0 == 44) = false := by rw [E.out]; rfl
          have n125 : (D i0 != 125) = true := by rw [E.out]; rfl
          have n93 : (D i0 != 93) = true := by rw [E.out]; rfl
          have be : bump n0 d0 = n0 := (by unfold bump; rw [if_neg (by have := E1.out; omega)])
          have N : Hid (scan (seg D (i0 + 1) len) 0 n0 (d0 + 1) = some m) := by show _ = _; have h := scan_cons HS.out hi; rw [sc_open _ _ _ _ (by have := E.out; omega), be] at h; exact h
          clear be
          go_wp2_with (go_at_call 17; refine (ws17 _ _).mono ?_; rintro e wz ⟨rfl, rfl⟩)
          go_round
          case rel => exact ⟨i0 + 1, n0, d0 + 1, by omega, by omega, by omega, by omega, by omega, by omega, by go_num, by go_num, by go_num, N.out⟩
          case measure => simp [intOf]; omega
        by_cases z125 : D i0 = 125
        · have E : Hid (D i0 = 125) := z125
          clear z34 z123 z91 z125
          have hw : wsB (D i0) = false := by rw [E.out]; rfl
          have e34 : (D i0 == 34) = false := by rw [E.out]; rfl
          have e123 : (D i0 == 123) = false := by rw [E.out]; rfl
          have e91 : (D i0 == 91) = false := by rw [E.out]; rfl
          have e125 : (D i0 == 125) = true := by rw [E.out]; rfl
          have e93 : (D i0 == 93) = false := by rw [E.out]; rfl
          have e44 : (D i0 == 44) = false := by rw [E.out]; rfl
          have n125 : (D i0 != 125) = false := by rw [E.out]; rfl
          have n93 : (D i0 != 93) = true := by rw [E.out]; rfl
          have N : Hid (scan (seg D (i0 + 1) len) 0 n0 (d0 - 1) = some m) := by show _ = _; have h := scan_cons HS.out hi; rw [sc_close _ _ _ _ (by have := E.out; omega) (by have := E1.out; omega)] at h; exact h
          go_wp2_with (go_at_call 17; refine (ws17 _ _).mono ?_; rintro e wz ⟨rfl, rfl⟩)
          go_round
          case rel => exact ⟨i0 + 1, n0, d0 - 1, by omega, by omega, by omega, by omega, by omega, by omega, by go_num, by go_num, by go_num, N.out⟩
          case measure => simp [intOf]; omega
        by_cases z93 : D i0 = 93
        · have E : Hid (D i0 = 93) := z93
          clear z34 z123 z91 z125 z93
          have hw : wsB (D i0) = false := by rw [E.out]; rfl
          have e34 : (D i0 == 34) = false := by rw [E.out]; rfl
          have e123 : (D i0 == 123) = false := by rw [E.out]; rfl
          have e91 : (D i0 == 91) = false := by rw [E.out]; rfl
          have e125 : (D i0 == 125) = false := by rw [E.out]; rfl
          have e93 : (D i0 == 93) = true := by rw [E.out]; rfl
          have e44 : (D i0 == 44) = false := by rw [E.out]; rfl
          have n125 : (D i0 != 125) = true := by rw [E.out]; rfl
          have n93 : (D i0 != 93) = false := by rw [E.out]; rfl
          have N : Hid (scan (seg D (i0 + 1) len) 0 n0 (d0 - 1) = some m) := by show _ = _; have h := scan_cons HS.out hi; rw [sc_close _ _ _ _ (by have := E.out; omega) (by have := E1.out; omega)] at h; exact h
          go_wp2_with (go_at_call 17; refine (ws17 _ _).mono ?_; rintro e wz ⟨rfl, rfl⟩)
          go_round
          case rel => exact ⟨i0 + 1, n0, d0 - 1, by omega, by omega, by omega, by omega, by omega, by omega, by go_num, by go_num, by go_num, N.out⟩
          case measure => simp [intOf]; omega
        by_cases z44 : D i0 = 44
        · have E : Hid (D i0 = 44) := z44
          clear z34 z123 z91 z125 z93 z44
          have hw : wsB (D i0) = false := by rw [E.out]; rfl
          have e34 : (D i0 == 34) = false := by rw [E.out]; rfl
          have e123 : (D i0 == 123) = false := by rw [E.out]; rfl
          have e91 : (D i0 == 91) = false := by rw [E.out]; rfl
          have e125 : (D i0 == 125) = false := by rw [E.out]; rfl
          have e93 : (D i0 == 93) = false := by rw [E.out]; rfl
          have e44 : (D i0 == 44) = true := by rw [E.out]; rfl
          have n125 : (D i0 != 125) = true := by rw [E.out]; rfl
          have n93 : (D i0 != 93) = true := by rw [E.out]; rfl
          have be : bump n0 d0 = n0 := (by unfold bump; rw [if_neg (by have := E1.out; omega)])
          have N : Hid (scan (seg D (i0 + 1) len) 0 n0 d0 = some m) := by show _ = _; have h := scan_cons HS.out hi; rw [E.out, sc_comma2 _ _ _ (by have := E1.out; omega), be] at h; exact h
          clear be
          go_wp2_with (go_at_call 17; refine (ws17 _ _).mono ?_; rintro e wz ⟨rfl, rfl⟩)
          go_round
          case rel => exact ⟨i0 + 1, n0, d0, by omega, by omega, by omega, by omega, by omega, by omega, by go_num, by go_num, by go_num, N.out⟩
          case measure => simp [intOf]; omega
        cases hw : wsB (D i0) with
        | true =>
          clear z34 z123 z91 z125 z93 z44
          have W : Hid (D i0 = 32 ∨ D i0 = 9 ∨ D i0 = 13 ∨ D i0 = 10) := (wsB_iff _).1 hw
          have e34 : (D i0 == 34) = false := by have := W.out; rw [beq_eq_false_iff_ne]; omega
          have e123 : (D i0 == 123) = false := by have := W.out; rw [beq_eq_false_iff_ne]; omega
          have e91 : (D i0 == 91) = false := by have := W.out; rw [beq_eq_false_iff_ne]; omega
          have e125 : (D i0 == 125) = false := by have := W.out; rw [beq_eq_false_iff_ne]; omega
          have e93 : (D i0 == 93) = false := by have := W.out; rw [beq_eq_false_iff_ne]; omega
          have e44 : (D i0 == 44) = false := by have := W.out; rw [beq_eq_false_iff_ne]; omega
          have n125 : (D i0 != 125) = true := by have := W.out; rw [bne_iff_ne]; omega
          have n93 : (D i0 != 93) = true := by have := W.out; rw [bne_iff_ne]; omega
          have N : Hid (scan (seg D (i0 + 1) len) 0 n0 d0 = some m) := by show _ = _; have h := scan_cons HS.out hi; rw [sc_ws _ _ _ _ hw] at h; exact h
          go_wp2_with (go_at_call 17; refine (ws17 _ _).mono ?_; rintro e wz ⟨rfl, rfl⟩)
          go_round
          case rel => exact ⟨i0 + 1, n0, d0, by omega, by omega, by omega, by omega, by omega, by omega, by go_num, by go_num, by go_num, N.out⟩
          case measure => simp [intOf]; omega
        | false =>
          have E : Hid (plB (D i0) = true) := (plB_iff _).2 ⟨hw, z34, z123, z91, z125, z93, z44⟩
          have e34 : (D i0 == 34) = false := beq_eq_false_iff_ne.2 z34
          have e123 : (D i0 == 123) = false := beq_eq_false_iff_ne.2 z123
          have e91 : (D i0 == 91) = false := beq_eq_false_iff_ne.2 z91
          have e125 : (D i0 == 125) = false := beq_eq_false_iff_ne.2 z125
          have e93 : (D i0 == 93) = false := beq_eq_false_iff_ne.2 z93
          have e44 : (D i0 == 44) = false := beq_eq_false_iff_ne.2 z44
          have n125 : (D i0 != 125) = true := bne_iff_ne.2 z125
          have n93 : (D i0 != 93) = true := bne_iff_ne.2 z93
          clear z34 z123 z91 z125 z93 z44
          have be : bump n0 d0 = n0 := (by unfold bump; rw [if_neg (by have := E1.out; omega)])
          have N : Hid (scan (seg D (i0 + 1) len) 0 n0 d0 = some m) := by show _ = _; have h := scan_cons HS.out hi; rw [sc_pl _ _ _ _ E.out, be] at h; exact h
          clear be
          go_wp2_with (go_at_call 17; refine (ws17 _ _).mono ?_; rintro e wz ⟨rfl, rfl⟩)
          go_round
          case rel => exact ⟨i0 + 1, n0, d0, by omega, by omega, by omega, by omega, by omega, by omega, by go_num, by go_num, by go_num, N.out⟩
          case measure => simp [intOf]; omega

end Go.Proofs.Qxb6627776a
