import Derived.Test.Qxb6627776aParse
namespace Go.Proofs.Qxb6627776a
open Go.RowKit

def LitR (D : Nat → Int) (p : Nat) (s : ByteArray) (k : Nat) : Prop := ∀ i (_ : i < k) (h : i < s.size), D (p + i) = (s[i].toNat : Int)
def Dr (w w' : World) : Prop := ∃ n, w' = w.drewN n
theorem Dr.refl (w : World) : Dr w w := ⟨0, rfl⟩
theorem Dr.more {w w' : World} (h : Dr w w') (n : Nat) : Dr w (w'.drewN n) := by
  obtain ⟨m, rfl⟩ := h; exact ⟨m + n, by simp⟩
theorem Dr.trans {a b c : World} (h : Dr a b) (k : Dr b c) : Dr a c := by
  obtain ⟨m, rfl⟩ := h; obtain ⟨n, rfl⟩ := k; exact ⟨m + n, by simp⟩
theorem Dr.rd {a b : World} (h : Dr a b) {D : Nat → Int} {bl off len : Nat} (k : Rd D bl off len a) : Rd D bl off len b := by
  obtain ⟨m, rfl⟩ := h; exact k.drewN m

theorem lit19 (D : Nat → Int) (b off len cap p : Nat) (s : ByteArray) (w : World) (hr : Rd D b off len w) (hl : len ≤ 1048576) (hp : p ≤ len) (hs : s.size ≤ 100) :
    Calls Try.prog 19 #[.slice (some ⟨b, off, none⟩) len cap, .int .i64 p, .string s] w fun e w' => PairP len (fun q => q = p + s.size ∧ LitR D p s s.size) e ∧ Dr w w' := by
  have hr' : Hid (Rd D b off len w) := hr
  clear hr
  by_cases h : (len : Int) - p < s.size
  · go_enter Try.func19, Try.ntmps19
    go_wp2
    go_ret2
    exact ⟨PairP.no p hp rfl, Dr.refl _⟩
  · have h' : (s.size : Int) ≤ len - p := by omega
    have t1 : decide ((len : Int) - p < s.size) = false := by simpa using h
    clear h
    go_enter Try.func19, Try.ntmps19
    go_wp2
    go_loopw [8] (fun i wr => ∃ k : Nat, k ≤ s.size ∧ i = .int .i64 k ∧ Hid (LitR D p s k) ∧ Hid (Dr w wr)) (fun i _ => s.size - (intOf i).toNat)
    case atStart => exact ⟨0, Nat.zero_le _, rfl, fun i h => by omega, Dr.refl _⟩
    case round =>
      obtain ⟨k, hk, rfl, H, G⟩ := hrel
      by_cases hlt : k < s.size
      · have hc := G.out.rd hr'.out (p + k) (by omega)
        go_wp2
        go_quiet (fail)
        go_wp2
        · go_ret2
          exact ⟨PairP.no p hp rfl, G.out.more _⟩
        · have hne : (D (p + k) != (s[k].toNat : Int)) = false := by assumption
          go_roundw
          case rel => exact ⟨k + 1, by omega, by go_num, fun i a b => by rcases Nat.lt_succ_iff_lt_or_eq.1 a with c | c; exact H.out i c b; subst c; simpa using hne, G.out.more _⟩
          case measure => simp [intOf]; omega
      · have hk' : Hid (k = s.size) := (by omega : k = s.size)
        go_wp2
        go_ret2
        exact ⟨PairP.yes (p + s.size) (by omega) rfl ⟨rfl, by rw [← hk'.out]; exact H.out⟩, G.out⟩

theorem lit_val {D : Nat → Int} {len p q : Nat} {s : ByteArray} (h : q = p + s.size ∧ LitR D p s s.size) (hq : q ≤ len) (h0 : 0 < s.size) (hp : ∀ i (h : i < s.size), plB (s[i].toNat : Int) = true) : ValR D len p q := by
  obtain ⟨rfl, hl⟩ := h
  refine val_of_plain (by omega) hq fun j a b => ?_
  obtain ⟨i, rfl⟩ : ∃ i, j = p + i := ⟨j - p, by omega⟩
  rw [hl i (by omega) (by omega)]
  exact hp i (by omega)
theorem pl_true : ∀ i (h : i < (⟨#[116, 114, 117, 101]⟩ : ByteArray).size), plB ((⟨#[116, 114, 117, 101]⟩ : ByteArray)[i].toNat : Int) = true
  | 0, _ => rfl
  | 1, _ => rfl
  | 2, _ => rfl
  | 3, _ => rfl
  | n + 4, h => absurd h (by show ¬ n + 4 < 4; omega)
theorem pl_false : ∀ i (h : i < (⟨#[102, 97, 108, 115, 101]⟩ : ByteArray).size), plB ((⟨#[102, 97, 108, 115, 101]⟩ : ByteArray)[i].toNat : Int) = true
  | 0, _ => rfl
  | 1, _ => rfl
  | 2, _ => rfl
  | 3, _ => rfl
  | 4, _ => rfl
  | n + 5, h => absurd h (by show ¬ n + 5 < 5; omega)
theorem pl_null : ∀ i (h : i < (⟨#[110, 117, 108, 108]⟩ : ByteArray).size), plB ((⟨#[110, 117, 108, 108]⟩ : ByteArray)[i].toNat : Int) = true
  | 0, _ => rfl
  | 1, _ => rfl
  | 2, _ => rfl
  | 3, _ => rfl
  | n + 4, h => absurd h (by show ¬ n + 4 < 4; omega)

/-- a count, a place and a bool come back -/
def TriP (len : Nat) (Q : Nat → Nat → Prop) (e : Ending) : Prop := ∃ (n q : Nat) (ok : Bool), e = .returned (.tuple #[.int .i64 n, .int .i64 q, .bool ok]) ∧ q ≤ len ∧ n ≤ len ∧ (ok = true → Q n q)
theorem TriP.no {len : Nat} {Q : Nat → Nat → Prop} {e : Ending} (n q : Nat) (hn : n ≤ len) (hq : q ≤ len) (he : e = .returned (.tuple #[.int .i64 n, .int .i64 q, .bool false])) : TriP len Q e := ⟨n, q, false, he, hq, hn, fun h => by cases h⟩
theorem TriP.yes {len : Nat} {Q : Nat → Nat → Prop} {e : Ending} (n q : Nat) (hn : n ≤ len) (hq : q ≤ len) (he : e = .returned (.tuple #[.int .i64 n, .int .i64 q, .bool true])) (h : Q n q) : TriP len Q e := ⟨n, q, true, he, hq, hn, fun _ => h⟩

def ValC (D : Nat → Int) (b off len cap p : Nat) : Prop := ∀ w, Rd D b off len w →
  Calls Try.prog 15 #[.slice (some ⟨b, off, none⟩) len cap, .int .i64 p] w fun e w' => PairP len (ValR D len p) e ∧ Dr w w'
def ConC (D : Nat → Int) (b off len cap p : Nat) : Prop := ∀ w, Rd D b off len w →
  Calls Try.prog 8 #[.slice (some ⟨b, off, none⟩) len cap, .int .i64 p] w fun e w' => TriP len (fun n q => ConR D len p q n) e ∧ Dr w w'

set_option maxRecDepth 100000 in
set_option maxHeartbeats 1000000 in
theorem val_of (D : Nat → Int) (b off len cap p : Nat) (hl : len ≤ 1048576) (hp : p ≤ len) (hcon0 : p < len → (D p = 123 ∨ D p = 91) → ConC D b off len cap p) : ValC D b off len cap p := by
  intro w hr
  have hr' : Hid (Rd D b off len w) := hr
  have hcon : Hid (p < len → (D p = 123 ∨ D p = 91) → ConC D b off len cap p) := hcon0
  clear hr hcon0
  by_cases hq : p < len
  · have hc := hr'.out p hq
    rcases tests D p 123 91 with ⟨B, b1⟩ | ⟨B, b1, b1'⟩ | ⟨b1, b1'⟩
    rotate_left 2
    · cases b2 : (D p == 34) with
      | true =>
        have B : Hid (D p = 34) := (by simpa using b2 : D p = 34)
        go_enter Try.func15, Try.ntmps15
        go_wp2_with (go_at_call 14; refine (str14 D b off len cap p w (by exact hr'.out) hl hq (by exact B.out)).mono ?_; rintro e w1 ⟨⟨q, ok, rfl, hq1, hq2⟩, rfl⟩; have Q : Hid (ok = true → ValR D len p q) := hq2; clear hq2)
        go_ret2
        exact ⟨⟨q, ok, rfl, hq1, Q.out⟩, Dr.refl _⟩
      | false =>
      cases b3 : (D p == 116) with
      | true =>
        go_enter Try.func15, Try.ntmps15
        go_wp2_with (go_at_call 19; refine (lit19 D b off len cap p _ w (by exact hr'.out) hl hp (by decide)).mono ?_; rintro e w1 ⟨⟨q, ok, rfl, hq1, hq2⟩, hd⟩; have Q : Hid (ok = true → ValR D len p q) := (fun h => lit_val (hq2 h) hq1 (by decide) pl_true); have DD : Hid (Dr w w1) := hd; clear hq2 hd)
        go_ret2
        exact ⟨⟨q, ok, rfl, hq1, Q.out⟩, DD.out⟩
      | false =>
      cases b4 : (D p == 102) with
      | true =>
        go_enter Try.func15, Try.ntmps15
        go_wp2_with (go_at_call 19; refine (lit19 D b off len cap p _ w (by exact hr'.out) hl hp (by decide)).mono ?_; rintro e w1 ⟨⟨q, ok, rfl, hq1, hq2⟩, hd⟩; have Q : Hid (ok = true → ValR D len p q) := (fun h => lit_val (hq2 h) hq1 (by decide) pl_false); have DD : Hid (Dr w w1) := hd; clear hq2 hd)
        go_ret2
        exact ⟨⟨q, ok, rfl, hq1, Q.out⟩, DD.out⟩
      | false =>
      cases b5 : (D p == 110) with
      | true =>
        go_enter Try.func15, Try.ntmps15
        go_wp2_with (go_at_call 19; refine (lit19 D b off len cap p _ w (by exact hr'.out) hl hp (by decide)).mono ?_; rintro e w1 ⟨⟨q, ok, rfl, hq1, hq2⟩, hd⟩; have Q : Hid (ok = true → ValR D len p q) := (fun h => lit_val (hq2 h) hq1 (by decide) pl_null); have DD : Hid (Dr w w1) := hd; clear hq2 hd)
        go_ret2
        exact ⟨⟨q, ok, rfl, hq1, Q.out⟩, DD.out⟩
      | false =>
        go_enter Try.func15, Try.ntmps15
        go_wp2_with (go_at_call 20; refine (num20 D b off len cap p w (by exact hr'.out) hl hq).mono ?_; rintro e w1 ⟨⟨q, ok, rfl, hq1, hq2⟩, rfl⟩; have Q : Hid (ok = true → ValR D len p q) := hq2; clear hq2)
        go_ret2
        exact ⟨⟨q, ok, rfl, hq1, Q.out⟩, Dr.refl _⟩
    all_goals
      go_enter Try.func15, Try.ntmps15
      go_wp2_with (go_at_call 8; refine (hcon.out hq (by have := B.out; omega) w (by exact hr'.out)).mono ?_; rintro e w1 ⟨⟨n, q, ok, rfl, hq1, hn1, hq2⟩, hd⟩; have Q : Hid (ok = true → ValR D len p q) := (fun h => (hq2 h).1); have DD : Hid (Dr w w1) := hd; clear hq2 hd)
      go_ret2
      exact ⟨⟨q, ok, rfl, hq1, Q.out⟩, DD.out⟩
  · go_enter Try.func15, Try.ntmps15
    go_wp2
    go_ret2
    exact ⟨PairP.no p hp rfl, Dr.refl _⟩
end Go.Proofs.Qxb6627776a
