import Derived.Test.Qxb6627776aValue
namespace Go.Proofs.Qxb6627776a
open Go.RowKit

set_option maxRecDepth 100000 in
set_option maxHeartbeats 2000000 in
theorem con_arr (D : Nat → Int) (b off len cap p : Nat) (hl : len ≤ 1048576) (hp : p < len) (ho : D p = 91) (ih0 : ∀ q, p < q → q ≤ len → ValC D b off len cap q) : ConC D b off len cap p := by
  intro w hr
  have hr' : Hid (Rd D b off len w) := hr
  have ih : Hid (∀ q, p < q → q ≤ len → ValC D b off len cap q) := ih0
  have HO : Hid (D p = 91) := ho
  have t0 : (D p == 123) = false := by rw [ho]; rfl
  have hc := hr'.out p hp
  clear hr ih0 ho
  go_enter Try.func8, Try.ntmps8
  go_wp2_with fail
  refine (skip D b off len cap (p + 1) _ (by omega) w (by exact hr'.out) hl hp).mono ?_
  rintro e w1 ⟨⟨p1, rfl, hs⟩, hw⟩
  subst hw
  have S1 : Hid (SkipR D len (p + 1) p1) := hs
  have s1a : p + 1 ≤ p1 := hs.1
  have s1b : p1 ≤ len := hs.2.1
  clear hs
  by_cases hp1 : p1 < len
  · have t1 : decide ((p1 : Int) < (len : Int)) = true := by rw [decide_eq_true_iff]; omega
    have hc1 := hr'.out p1 hp1
    cases c0 : (D p1 == 93) with
    | true =>
      have C0 : Hid (D p1 = 93) := (by simpa using c0 : D p1 = 93)
      go_wp2_with fail
      go_ret3
      exact ⟨TriP.yes 0 (p1 + 1) (by omega) (by omega) rfl (con_empty S1.out (by have := HO.out; omega) (by have := C0.out; omega) hp1), Dr.refl _⟩
    | false =>
      clear hc
      go_wp2_with fail
      go_loopw [1, 9] (fun i n wr => ∃ q m : Nat, p < q ∧ q ≤ len ∧ m < q ∧ i = .int .i64 q ∧ n = .int .i64 m ∧ Hid (ReadyR D p q m) ∧ Hid (Dr w wr)) (fun i _ _ => len - (intOf i).toNat)
      case atStart => exact ⟨p1, 0, by omega, by omega, by omega, rfl, rfl, ready_start S1.out, Dr.refl _⟩
      case round =>
        obtain ⟨q, m, h1, h2, h3, rfl, rfl, H, G⟩ := hrel
        go_wp2_with fail
        refine (ih.out q (by omega) (by omega) _ (by exact G.out.rd hr'.out)).mono ?_
        rintro e wv ⟨⟨r, ok, rfl, hv1, hv2⟩, hd⟩
        have HV : Hid (ok = true → ValR D len q r) := hv2
        have GV : Hid (Dr w wv) := G.out.trans hd
        clear hv2 hd
        cases ok with
        | false =>
          go_wp2_with fail
          go_ret3
          exact ⟨TriP.no m r (by omega) (by omega) rfl, GV.out⟩
        | true =>
          have V : Hid (ValR D len q r) := HV.out rfl
          have hlt : q < r := V.out.1
          go_wp2_with fail
          refine (skip D b off len cap r _ (by omega) wv (by exact GV.out.rd hr'.out) hl hv1).mono ?_
          rintro e wv' ⟨⟨p2, rfl, hs⟩, hw⟩
          subst hw
          have S2 : Hid (SkipR D len r p2) := hs
          have s2a : r ≤ p2 := hs.1
          have s2b : p2 ≤ len := hs.2.1
          clear hs
          by_cases hp2 : p2 < len
          · have hc2 := GV.out.rd hr'.out p2 hp2
            cases c1 : (D p2 == 44) with
            | true =>
              have C1 : Hid (D p2 = 44) := (by simpa using c1 : D p2 = 44)
              go_wp2_with fail
              refine (skip D b off len cap (p2 + 1) _ (by omega) wv (by exact GV.out.rd hr'.out) hl hp2).mono ?_
              rintro e wv' ⟨⟨p3, rfl, hs⟩, hw⟩
              subst hw
              have S3 : Hid (SkipR D len (p2 + 1) p3) := hs
              have s3a : p2 + 1 ≤ p3 := hs.1
              have s3b : p3 ≤ len := hs.2.1
              clear hs
              go_wp2_with fail
              go_roundw
              case rel => exact ⟨p3, m + 1, by omega, by omega, by omega, rfl, by go_num, ready_comma (after_val H.out V.out S2.out) (by omega) C1.out S3.out, GV.out⟩
              case measure => simp [intOf]; omega
            | false =>
              cases c2 : (D p2 == 93) with
              | true =>
                have C2 : Hid (D p2 = 93) := (by simpa using c2 : D p2 = 93)
                go_wp2_with fail
                go_ret3
                exact ⟨TriP.yes (m + 1) (p2 + 1) (by omega) (by omega) rfl (con_close (after_val H.out V.out S2.out) (by have := HO.out; omega) (by have := C2.out; omega) hp2), GV.out⟩
              | false =>
                go_wp2_with fail
                go_ret3
                exact ⟨TriP.no (m + 1) p2 (by omega) (by omega) rfl, GV.out⟩
          · go_wp2_with fail
            go_ret3
            exact ⟨TriP.no (m + 1) p2 (by omega) (by omega) rfl, GV.out⟩
  · have t1 : decide ((p1 : Int) < (len : Int)) = false := by rw [decide_eq_false_iff_not]; omega
    clear hc
    go_wp2_with fail
    go_loopw [1, 9] (fun i n wr => ∃ q m : Nat, p < q ∧ q ≤ len ∧ m < q ∧ i = .int .i64 q ∧ n = .int .i64 m ∧ Hid (ReadyR D p q m) ∧ Hid (Dr w wr)) (fun i _ _ => len - (intOf i).toNat)
    case atStart => exact ⟨p1, 0, by omega, by omega, by omega, rfl, rfl, ready_start S1.out, Dr.refl _⟩
    case round =>
      obtain ⟨q, m, h1, h2, h3, rfl, rfl, H, G⟩ := hrel
      go_wp2_with fail
      refine (ih.out q (by omega) (by omega) _ (by exact G.out.rd hr'.out)).mono ?_
      rintro e wv ⟨⟨r, ok, rfl, hv1, hv2⟩, hd⟩
      have HV : Hid (ok = true → ValR D len q r) := hv2
      have GV : Hid (Dr w wv) := G.out.trans hd
      clear hv2 hd
      cases ok with
      | false =>
        go_wp2_with fail
        go_ret3
        exact ⟨TriP.no m r (by omega) (by omega) rfl, GV.out⟩
      | true =>
        have V : Hid (ValR D len q r) := HV.out rfl
        have hlt : q < r := V.out.1
        go_wp2_with fail
        refine (skip D b off len cap r _ (by omega) wv (by exact GV.out.rd hr'.out) hl hv1).mono ?_
        rintro e wv' ⟨⟨p2, rfl, hs⟩, hw⟩
        subst hw
        have S2 : Hid (SkipR D len r p2) := hs
        have s2a : r ≤ p2 := hs.1
        have s2b : p2 ≤ len := hs.2.1
        clear hs
        by_cases hp2 : p2 < len
        · have hc2 := GV.out.rd hr'.out p2 hp2
          cases c1 : (D p2 == 44) with
          | true =>
            have C1 : Hid (D p2 = 44) := (by simpa using c1 : D p2 = 44)
            go_wp2_with fail
            refine (skip D b off len cap (p2 + 1) _ (by omega) wv (by exact GV.out.rd hr'.out) hl hp2).mono ?_
            rintro e wv' ⟨⟨p3, rfl, hs⟩, hw⟩
            subst hw
            have S3 : Hid (SkipR D len (p2 + 1) p3) := hs
            have s3a : p2 + 1 ≤ p3 := hs.1
            have s3b : p3 ≤ len := hs.2.1
            clear hs
            go_wp2_with fail
            go_roundw
            case rel => exact ⟨p3, m + 1, by omega, by omega, by omega, rfl, by go_num, ready_comma (after_val H.out V.out S2.out) (by omega) C1.out S3.out, GV.out⟩
            case measure => simp [intOf]; omega
          | false =>
            cases c2 : (D p2 == 93) with
            | true =>
              have C2 : Hid (D p2 = 93) := (by simpa using c2 : D p2 = 93)
              go_wp2_with fail
              go_ret3
              exact ⟨TriP.yes (m + 1) (p2 + 1) (by omega) (by omega) rfl (con_close (after_val H.out V.out S2.out) (by have := HO.out; omega) (by have := C2.out; omega) hp2), GV.out⟩
            | false =>
              go_wp2_with fail
              go_ret3
              exact ⟨TriP.no (m + 1) p2 (by omega) (by omega) rfl, GV.out⟩
        · go_wp2_with fail
          go_ret3
          exact ⟨TriP.no (m + 1) p2 (by omega) (by omega) rfl, GV.out⟩
set_option maxRecDepth 100000 in
set_option maxHeartbeats 2000000 in
theorem con_obj (D : Nat → Int) (b off len cap p : Nat) (hl : len ≤ 1048576) (hp : p < len) (ho : D p = 123) (ih0 : ∀ q, p < q → q ≤ len → ValC D b off len cap q) : ConC D b off len cap p := by
  intro w hr
  have hr' : Hid (Rd D b off len w) := hr
  have ih : Hid (∀ q, p < q → q ≤ len → ValC D b off len cap q) := ih0
  have HO : Hid (D p = 123) := ho
  have t0 : (D p == 123) = true := by rw [ho]; rfl
  have hc := hr'.out p hp
  clear hr ih0 ho
  go_enter Try.func8, Try.ntmps8
  go_wp2_with fail
  refine (skip D b off len cap (p + 1) _ (by omega) w (by exact hr'.out) hl hp).mono ?_
  rintro e w1 ⟨⟨p1, rfl, hs⟩, hw⟩
  subst hw
  have S1 : Hid (SkipR D len (p + 1) p1) := hs
  have s1a : p + 1 ≤ p1 := hs.1
  have s1b : p1 ≤ len := hs.2.1
  clear hs
  by_cases hp1 : p1 < len
  · have t1 : decide ((p1 : Int) < (len : Int)) = true := by rw [decide_eq_true_iff]; omega
    have hc1 := hr'.out p1 hp1
    cases c0 : (D p1 == 125) with
    | true =>
      have C0 : Hid (D p1 = 125) := (by simpa using c0 : D p1 = 125)
      go_wp2_with fail
      go_ret3
      exact ⟨TriP.yes 0 (p1 + 1) (by omega) (by omega) rfl (con_empty S1.out (by have := HO.out; omega) (by have := C0.out; omega) hp1), Dr.refl _⟩
    | false =>
      clear hc
      go_wp2_with fail
      go_loopw [1, 9] (fun i n wr => ∃ q m : Nat, p < q ∧ q ≤ len ∧ m < q ∧ i = .int .i64 q ∧ n = .int .i64 m ∧ Hid (ReadyR D p q m) ∧ Hid (Dr w wr)) (fun i _ _ => len - (intOf i).toNat)
      case atStart => exact ⟨p1, 0, by omega, by omega, by omega, rfl, rfl, ready_start S1.out, Dr.refl _⟩
      case round =>
        obtain ⟨q, m, h1, h2, h3, rfl, rfl, H, G⟩ := hrel
        by_cases hq : q < len
        · have hc := G.out.rd hr'.out q hq
          cases k1 : (D q != 34) with
          | true =>
            go_wp2_with fail
            go_ret3
            exact ⟨TriP.no m q (by omega) (by omega) rfl, G.out⟩
          | false =>
            have K1 : Hid (D q = 34) := (by simpa using k1 : D q = 34)
            go_wp2_with fail
            refine (str14 D b off len cap q _ (by exact G.out.rd hr'.out) hl hq (by exact K1.out)).mono ?_
            rintro e wk ⟨⟨r1, ok1, rfl, hk1, hk2⟩, hw⟩
            subst hw
            have HK : Hid (ok1 = true → ValR D len q r1) := hk2
            clear hk2
            cases ok1 with
            | false =>
              go_wp2_with fail
              go_ret3
              exact ⟨TriP.no m r1 (by omega) (by omega) rfl, G.out⟩
            | true =>
              have KV : Hid (ValR D len q r1) := HK.out rfl
              have klt : q < r1 := KV.out.1
              go_wp2_with fail
              refine (skip D b off len cap r1 _ (by omega) _ (by exact G.out.rd hr'.out) hl hk1).mono ?_
              rintro e wv' ⟨⟨p4, rfl, hs⟩, hw⟩
              subst hw
              have S4 : Hid (SkipR D len r1 p4) := hs
              have s4a : r1 ≤ p4 := hs.1
              have s4b : p4 ≤ len := hs.2.1
              clear hs
              by_cases hp4 : p4 < len
              · have hc4 := G.out.rd hr'.out p4 hp4
                cases k2 : (D p4 != 58) with
                | true =>
                  go_wp2_with fail
                  go_ret3
                  exact ⟨TriP.no m p4 (by omega) (by omega) rfl, G.out⟩
                | false =>
                  have K2 : Hid (D p4 = 58) := (by simpa using k2 : D p4 = 58)
                  go_wp2_with fail
                  refine (skip D b off len cap (p4 + 1) _ (by omega) _ (by exact G.out.rd hr'.out) hl hp4).mono ?_
                  rintro e wv' ⟨⟨p5, rfl, hs⟩, hw⟩
                  subst hw
                  have S5 : Hid (SkipR D len (p4 + 1) p5) := hs
                  have s5a : p4 + 1 ≤ p5 := hs.1
                  have s5b : p5 ≤ len := hs.2.1
                  clear hs
                  go_wp2_with fail
                  refine (ih.out p5 (by omega) (by omega) _ (by exact G.out.rd hr'.out)).mono ?_
                  rintro e wv ⟨⟨r, ok, rfl, hv1, hv2⟩, hd⟩
                  have HV : Hid (ok = true → ValR D len p5 r) := hv2
                  have GV : Hid (Dr w wv) := G.out.trans hd
                  clear hv2 hd
                  cases ok with
                  | false =>
                    go_wp2_with fail
                    go_ret3
                    exact ⟨TriP.no m r (by omega) (by omega) rfl, GV.out⟩
                  | true =>
                    have V : Hid (ValR D len p5 r) := HV.out rfl
                    have hlt : p5 < r := V.out.1
                    go_wp2_with fail
                    refine (skip D b off len cap r _ (by omega) wv (by exact GV.out.rd hr'.out) hl hv1).mono ?_
                    rintro e wv' ⟨⟨p2, rfl, hs⟩, hw⟩
                    subst hw
                    have S2 : Hid (SkipR D len r p2) := hs
                    have s2a : r ≤ p2 := hs.1
                    have s2b : p2 ≤ len := hs.2.1
                    clear hs
                    by_cases hp2 : p2 < len
                    · have hc2 := GV.out.rd hr'.out p2 hp2
                      cases c1 : (D p2 == 44) with
                      | true =>
                        have C1 : Hid (D p2 = 44) := (by simpa using c1 : D p2 = 44)
                        go_wp2_with fail
                        refine (skip D b off len cap (p2 + 1) _ (by omega) wv (by exact GV.out.rd hr'.out) hl hp2).mono ?_
                        rintro e wv' ⟨⟨p3, rfl, hs⟩, hw⟩
                        subst hw
                        have S3 : Hid (SkipR D len (p2 + 1) p3) := hs
                        have s3a : p2 + 1 ≤ p3 := hs.1
                        have s3b : p3 ≤ len := hs.2.1
                        clear hs
                        go_wp2_with fail
                        go_roundw
                        case rel => exact ⟨p3, m + 1, by omega, by omega, by omega, rfl, by go_num, ready_comma (after_val (ready_key H.out KV.out S4.out K2.out S5.out) V.out S2.out) (by omega) C1.out S3.out, GV.out⟩
                        case measure => simp [intOf]; omega
                      | false =>
                        cases c2 : (D p2 == 125) with
                        | true =>
                          have C2 : Hid (D p2 = 125) := (by simpa using c2 : D p2 = 125)
                          go_wp2_with fail
                          go_ret3
                          exact ⟨TriP.yes (m + 1) (p2 + 1) (by omega) (by omega) rfl (con_close (after_val (ready_key H.out KV.out S4.out K2.out S5.out) V.out S2.out) (by have := HO.out; omega) (by have := C2.out; omega) hp2), GV.out⟩
                        | false =>
                          go_wp2_with fail
                          go_ret3
                          exact ⟨TriP.no (m + 1) p2 (by omega) (by omega) rfl, GV.out⟩
                    · go_wp2_with fail
                      go_ret3
                      exact ⟨TriP.no (m + 1) p2 (by omega) (by omega) rfl, GV.out⟩
              · go_wp2_with fail
                go_ret3
                exact ⟨TriP.no m p4 (by omega) (by omega) rfl, G.out⟩
        · go_wp2_with fail
          go_ret3
          exact ⟨TriP.no m q (by omega) (by omega) rfl, G.out⟩
  · have t1 : decide ((p1 : Int) < (len : Int)) = false := by rw [decide_eq_false_iff_not]; omega
    clear hc
    go_wp2_with fail
    go_loopw [1, 9] (fun i n wr => ∃ q m : Nat, p < q ∧ q ≤ len ∧ m < q ∧ i = .int .i64 q ∧ n = .int .i64 m ∧ Hid (ReadyR D p q m) ∧ Hid (Dr w wr)) (fun i _ _ => len - (intOf i).toNat)
    case atStart => exact ⟨p1, 0, by omega, by omega, by omega, rfl, rfl, ready_start S1.out, Dr.refl _⟩
    case round =>
      obtain ⟨q, m, h1, h2, h3, rfl, rfl, H, G⟩ := hrel
      by_cases hq : q < len
      · have hc := G.out.rd hr'.out q hq
        cases k1 : (D q != 34) with
        | true =>
          go_wp2_with fail
          go_ret3
          exact ⟨TriP.no m q (by omega) (by omega) rfl, G.out⟩
        | false =>
          have K1 : Hid (D q = 34) := (by simpa using k1 : D q = 34)
          go_wp2_with fail
          refine (str14 D b off len cap q _ (by exact G.out.rd hr'.out) hl hq (by exact K1.out)).mono ?_
          rintro e wk ⟨⟨r1, ok1, rfl, hk1, hk2⟩, hw⟩
          subst hw
          have HK : Hid (ok1 = true → ValR D len q r1) := hk2
          clear hk2
          cases ok1 with
          | false =>
            go_wp2_with fail
            go_ret3
            exact ⟨TriP.no m r1 (by omega) (by omega) rfl, G.out⟩
          | true =>
            have KV : Hid (ValR D len q r1) := HK.out rfl
            have klt : q < r1 := KV.out.1
            go_wp2_with fail
            refine (skip D b off len cap r1 _ (by omega) _ (by exact G.out.rd hr'.out) hl hk1).mono ?_
            rintro e wv' ⟨⟨p4, rfl, hs⟩, hw⟩
            subst hw
            have S4 : Hid (SkipR D len r1 p4) := hs
            have s4a : r1 ≤ p4 := hs.1
            have s4b : p4 ≤ len := hs.2.1
            clear hs
            by_cases hp4 : p4 < len
            · have hc4 := G.out.rd hr'.out p4 hp4
              cases k2 : (D p4 != 58) with
              | true =>
                go_wp2_with fail
                go_ret3
                exact ⟨TriP.no m p4 (by omega) (by omega) rfl, G.out⟩
              | false =>
                have K2 : Hid (D p4 = 58) := (by simpa using k2 : D p4 = 58)
                go_wp2_with fail
                refine (skip D b off len cap (p4 + 1) _ (by omega) _ (by exact G.out.rd hr'.out) hl hp4).mono ?_
                rintro e wv' ⟨⟨p5, rfl, hs⟩, hw⟩
                subst hw
                have S5 : Hid (SkipR D len (p4 + 1) p5) := hs
                have s5a : p4 + 1 ≤ p5 := hs.1
                have s5b : p5 ≤ len := hs.2.1
                clear hs
                go_wp2_with fail
                refine (ih.out p5 (by omega) (by omega) _ (by exact G.out.rd hr'.out)).mono ?_
                rintro e wv ⟨⟨r, ok, rfl, hv1, hv2⟩, hd⟩
                have HV : Hid (ok = true → ValR D len p5 r) := hv2
                have GV : Hid (Dr w wv) := G.out.trans hd
                clear hv2 hd
                cases ok with
                | false =>
                  go_wp2_with fail
                  go_ret3
                  exact ⟨TriP.no m r (by omega) (by omega) rfl, GV.out⟩
                | true =>
                  have V : Hid (ValR D len p5 r) := HV.out rfl
                  have hlt : p5 < r := V.out.1
                  go_wp2_with fail
                  refine (skip D b off len cap r _ (by omega) wv (by exact GV.out.rd hr'.out) hl hv1).mono ?_
                  rintro e wv' ⟨⟨p2, rfl, hs⟩, hw⟩
                  subst hw
                  have S2 : Hid (SkipR D len r p2) := hs
                  have s2a : r ≤ p2 := hs.1
                  have s2b : p2 ≤ len := hs.2.1
                  clear hs
                  by_cases hp2 : p2 < len
                  · have hc2 := GV.out.rd hr'.out p2 hp2
                    cases c1 : (D p2 == 44) with
                    | true =>
                      have C1 : Hid (D p2 = 44) := (by simpa using c1 : D p2 = 44)
                      go_wp2_with fail
                      refine (skip D b off len cap (p2 + 1) _ (by omega) wv (by exact GV.out.rd hr'.out) hl hp2).mono ?_
                      rintro e wv' ⟨⟨p3, rfl, hs⟩, hw⟩
                      subst hw
                      have S3 : Hid (SkipR D len (p2 + 1) p3) := hs
                      have s3a : p2 + 1 ≤ p3 := hs.1
                      have s3b : p3 ≤ len := hs.2.1
                      clear hs
                      go_wp2_with fail
                      go_roundw
                      case rel => exact ⟨p3, m + 1, by omega, by omega, by omega, rfl, by go_num, ready_comma (after_val (ready_key H.out KV.out S4.out K2.out S5.out) V.out S2.out) (by omega) C1.out S3.out, GV.out⟩
                      case measure => simp [intOf]; omega
                    | false =>
                      cases c2 : (D p2 == 125) with
                      | true =>
                        have C2 : Hid (D p2 = 125) := (by simpa using c2 : D p2 = 125)
                        go_wp2_with fail
                        go_ret3
                        exact ⟨TriP.yes (m + 1) (p2 + 1) (by omega) (by omega) rfl (con_close (after_val (ready_key H.out KV.out S4.out K2.out S5.out) V.out S2.out) (by have := HO.out; omega) (by have := C2.out; omega) hp2), GV.out⟩
                      | false =>
                        go_wp2_with fail
                        go_ret3
                        exact ⟨TriP.no (m + 1) p2 (by omega) (by omega) rfl, GV.out⟩
                  · go_wp2_with fail
                    go_ret3
                    exact ⟨TriP.no (m + 1) p2 (by omega) (by omega) rfl, GV.out⟩
            · go_wp2_with fail
              go_ret3
              exact ⟨TriP.no m p4 (by omega) (by omega) rfl, G.out⟩
      · go_wp2_with fail
        go_ret3
        exact ⟨TriP.no m q (by omega) (by omega) rfl, G.out⟩

end Go.Proofs.Qxb6627776a
