import Derived.Laws.Bits64
import Derived.Laws.Strings
namespace Go.Proofs.Qxb6627743a

def dig (b : UInt8) : Nat := (b.toNat + 208) % 256
def val (l : List UInt8) : Nat := l.foldl (fun a b => a * 10 + dig b) 0
/-- a number, modulo two to the 64th -/
def U (n : Nat) : Int := ((n % 18446744073709551616 : Nat) : Int)
def P10 (k : Nat) : Int := ((10 ^ k : Nat) : Int)

theorem dig_lt (b : UInt8) : dig b < 256 := by unfold dig; omega
theorem U_nonneg (n : Nat) : 0 ≤ U n := by unfold U; omega
theorem U_zero : U 0 = 0 := rfl
theorem wrapU (n : Nat) : IntKind.u64.wrap (n : Int) = U n := by rw [IntKind.wrap_u64]; unfold U; omega
theorem wrap_U (n : Nat) : IntKind.u64.wrap (U n) = U n := by rw [IntKind.wrap_u64]; unfold U; omega
theorem wrap_U_mul (n m : Nat) : IntKind.u64.wrap (U n * (m : Int)) = U (n * m) := by
  rw [IntKind.wrap_u64]; unfold U
  rw [← Int.natCast_mul]
  have : ((n % 18446744073709551616 * m : Nat) : Int) % 18446744073709551616 = ((n % 18446744073709551616 * m % 18446744073709551616 : Nat) : Int) := by omega
  rw [this, Nat.mod_mul_mod]
theorem wrap_U_add (n m : Nat) : IntKind.u64.wrap (U n + (m : Int)) = U (n + m) := by
  rw [IntKind.wrap_u64]; unfold U; omega
theorem wrap_U_addU (n m : Nat) : IntKind.u64.wrap (U n + U m) = U (n + m) := by
  rw [IntKind.wrap_u64]; unfold U; omega
theorem wrap_U_mulU (n m : Nat) : IntKind.u64.wrap (U n * U m) = U (n * m) := by
  have e : U m = ((m % 18446744073709551616 : Nat) : Int) := rfl
  rw [e, wrap_U_mul]
  unfold U
  rw [Nat.mul_mod_mod]

theorem pow_small (k : Nat) (h : k ≤ 18) : 10 ^ k ≤ 1000000000000000000 := by
  have := Nat.pow_le_pow_right (n := 10) (by decide) h
  exact this
theorem P10_zero : P10 0 = 1 := rfl
theorem P10_step (k : Nat) (h : k < 18) : IntKind.u64.wrap (P10 k * 10) = P10 (k + 1) := by
  have h1 := pow_small (k + 1) (by omega)
  rw [IntKind.wrap_u64]; unfold P10
  rw [Nat.pow_succ] at *
  omega
theorem P10_U (k : Nat) (h : k ≤ 18) : P10 k = U (10 ^ k) := by
  have h1 := pow_small k h
  unfold P10 U
  rw [Nat.mod_eq_of_lt (by omega)]

theorem dig_sub (b : UInt8) : IntKind.u8.wrap ((b.toNat : Int) - 48) = (dig b : Int) := by
  have := b.toNat_lt
  simp only [IntKind.wrap, IntKind.bits, IntKind.signed, dig]; simp; omega

theorem val_nil : val [] = 0 := rfl
theorem val_snoc (l : List UInt8) (b : UInt8) : val (l ++ [b]) = val l * 10 + dig b := by simp [val]
theorem foldl_shift (l : List UInt8) : ∀ a : Nat, l.foldl (fun a b => a * 10 + dig b) a = a * 10 ^ l.length + val l := by
  induction l with
  | nil => intro a; simp [val]
  | cons b l ih =>
    intro a
    simp only [List.foldl_cons, List.length_cons, val]
    rw [ih, ih (0 * 10 + dig b)]
    rw [Nat.pow_succ]
    rw [Nat.add_mul, Nat.mul_assoc, Nat.mul_comm 10, Nat.zero_mul, Nat.zero_add]
    omega
theorem val_append (a b : List UInt8) : val (a ++ b) = val a * 10 ^ b.length + val b := by
  unfold val; rw [List.foldl_append, foldl_shift]; rfl

theorem take_step (s : ByteArray) (k : Nat) (h : k < s.size) : s.data.toList.take (k + 1) = s.data.toList.take k ++ [s[k]] := by
  rw [List.take_succ_eq_append_getElem (by simpa using h)]; rfl
theorem drop_cons (s : ByteArray) (k : Nat) (h : k < s.size) : s.data.toList.drop k = s[k] :: s.data.toList.drop (k + 1) := by
  rw [List.drop_eq_getElem_cons (by simpa using h)]; rfl

/-- how many digits, how many zeros a chunk takes -/
def nD (n : Nat) : Nat := min 18 n
def nT (n : Nat) (z : Int) : Nat := min (18 - nD n) z.toNat
def chC (l : List UInt8) (z : Int) : Int := U (val (l.take (nD l.length)) * 10 ^ nT l.length z)
def chP (l : List UInt8) (z : Int) : Int := P10 (nD l.length + nT l.length z)

theorem cut_is (n d t : Nat) (z : Int) (h1 : d + t ≤ 18) (h2 : d ≤ n) (h3 : (t : Int) ≤ max z 0) (h4 : 0 < t → d = n) (h : d + t = 18 ∨ (d = n ∧ z ≤ t)) : d = nD n ∧ t = nT n z := by
  unfold nT nD; omega

theorem head_of (s s' : ByteArray) (d : Nat) (hd : 0 < s'.size) (hlt : d < s.size) (H : s'.data.toList = s.data.toList.drop d) : s'[0] = s[d] := by
  have e := congrArg (fun l => l[0]?) H
  simp only [List.getElem?_drop, Nat.add_zero] at e
  rw [List.getElem?_eq_getElem (by simpa using hd), List.getElem?_eq_getElem (by simpa using hlt)] at e
  exact Option.some.inj e
theorem tail_of (s s' : ByteArray) (d : Nat) (H : s'.data.toList = s.data.toList.drop d) : (s'.extract 1 s'.size).data.toList = s.data.toList.drop (d + 1) := by
  have e : (s'.extract 1 s'.size).data.toList = (s'.data.toList.drop 1).take (s'.size - 1) := by
    simp [ByteArray.extract, ByteArray.copySlice]
  rw [e, H, List.drop_drop, List.take_of_length_le]
  have := congrArg List.length H
  simp at this
  simp; omega
theorem chD (s s' : ByteArray) (d t : Nat) (hd : 0 < s'.size) (hlt : d < s.size) (H : s'.data.toList = s.data.toList.drop d) (ht : t = 0) :
    IntKind.u64.wrap (IntKind.u64.wrap (U (val (s.data.toList.take d) * 10 ^ t) * 10) + ((s'[0].toNat : Int) - 48) % 256) = U (val (s.data.toList.take (d + 1)) * 10 ^ t) := by
  subst ht
  rw [head_of s s' d hd hlt H, take_step s d hlt, val_snoc, Nat.pow_zero, Nat.mul_one, Nat.mul_one]
  have e : ((s[d].toNat : Int) - 48) % 256 = (dig s[d] : Int) := by unfold dig; omega
  have e2 := wrap_U_mul (val (s.data.toList.take d)) 10
  rw [e, ← wrap_U_add, ← e2]; rfl
theorem chT (n t : Nat) : IntKind.u64.wrap (U (n * 10 ^ t) * 10) = U (n * 10 ^ (t + 1)) := by
  have e2 := wrap_U_mul (n * 10 ^ t) 10
  rw [Nat.mul_assoc, ← Nat.pow_succ] at e2
  exact e2
theorem len_size (s : ByteArray) : s.data.toList.length = s.size := by simp
theorem isEmpty_no (s : ByteArray) (h : 0 < s.size) : s.toList.isEmpty = false := by
  rw [ByteArray.toList_eq]
  have h2 := len_size s
  cases e : s.data.toList with
  | nil => rw [e, List.length_nil] at h2; omega
  | cons a l => rfl
theorem isEmpty_yes (s : ByteArray) (h : s.size = 0) : s.toList.isEmpty = true := by
  rw [ByteArray.toList_eq]
  have h2 := len_size s
  cases e : s.data.toList with
  | nil => rfl
  | cons a l => rw [e, List.length_cons] at h2; omega

theorem sum_step (s : ByteArray) (k m D : Nat) (hm : m + 1 + k = D) (hk : k < s.size) :
    IntKind.u64.wrap (U (val (s.data.toList.take k) * 10 ^ (D - k)) + IntKind.u64.wrap ((dig s[k] : Int) * P10 m)) = U (val (s.data.toList.take (k + 1)) * 10 ^ (D - (k + 1))) := by
  have e1 : IntKind.u64.wrap ((dig s[k] : Int) * P10 m) = U (dig s[k] * 10 ^ m) := by
    unfold P10; rw [← Int.natCast_mul, wrapU]
  have e2 : D - k = m + 1 := by omega
  have e3 : D - (k + 1) = m := by omega
  rw [e1, wrap_U_addU, take_step s k hk, val_snoc, e2, e3, Nat.pow_succ, Nat.add_mul]
  congr 2
  rw [Nat.mul_comm (10 ^ m) 10, Nat.mul_assoc]
theorem want_c (s : ByteArray) (z : Int) (k t D : Nat) (hk : k = D) (hD : D = nD s.size) (ht : t = nT s.size z) :
    chC s.data.toList z = IntKind.u64.wrap (U (val (s.data.toList.take k) * 10 ^ (D - k)) * P10 t) := by
  subst hk
  have h18 : t ≤ 18 := by subst ht; unfold nT; omega
  rw [Nat.sub_self, Nat.pow_zero, Nat.mul_one, P10_U t h18, wrap_U_mulU]
  unfold chC
  rw [len_size, ← hD, ← ht]
theorem want_p (s : ByteArray) (z : Int) (m : Nat) (h : m = nD s.size + nT s.size z) : chP s.data.toList z = P10 m := by
  unfold chP; rw [len_size, h]
theorem want_s (s s' : ByteArray) (D : Nat) (h : s'.data.toList = s.data.toList.drop (nD s.size)) (hD : D = nD s.size) : s'.toList = (s.extract D s.size).toList := by
  rw [ByteArray.toList_eq, ByteArray.toList_eq, h, hD]
  have e : (s.extract (nD s.size) s.size).data.toList = (s.data.toList.drop (nD s.size)).take (s.size - nD s.size) := by
    simp [ByteArray.extract, ByteArray.copySlice]
  rw [e, List.take_of_length_le]
  simp
theorem beq_of {α : Type} [BEq α] [LawfulBEq α] {a b : α} (h : a = b) : (a == b) = true := by rw [h]; exact beq_self_eq_true _

end Go.Proofs.Qxb6627743a
