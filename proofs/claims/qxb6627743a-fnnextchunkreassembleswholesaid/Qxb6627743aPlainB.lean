import Derived.Test.Qxb6627743aPlain
namespace Go.Proofs.Qxb6627743a

theorem nT_le (n : Nat) (z : Int) : nD n + nT n z ≤ 18 := by unfold nT nD; omega
theorem take_more (l : List UInt8) (d D : Nat) : l.take (d + D) = l.take d ++ (l.drop d).take D := by rw [List.take_add]
theorem acc_step (s rd : ByteArray) (d t : Nat) (z c p : Int) (H : rd.data.toList = s.data.toList.drop d) (hsz : rd.size + d = s.size) (ht : 0 < t → d = s.size)
    (hc : c = chC rd.data.toList z) (hp : p = chP rd.data.toList z) :
    IntKind.u64.wrap (IntKind.u64.wrap (U (val (s.data.toList.take d) * 10 ^ t) * p) + c) = U (val (s.data.toList.take (d + nD rd.size)) * 10 ^ (t + nT rd.size z)) := by
  subst hc hp
  unfold chC chP
  rw [len_size, P10_U _ (nT_le rd.size z), wrap_U_mulU, wrap_U_addU, take_more, val_append, H]
  have hl : ((s.data.toList.drop d).take (nD rd.size)).length = nD rd.size := by
    rw [← H, List.length_take, len_size]; unfold nD; omega
  rw [hl]
  congr 1
  rcases Nat.eq_zero_or_pos t with h0 | h0
  · subst h0
    rw [Nat.pow_zero, Nat.mul_one, Nat.zero_add, Nat.pow_add, Nat.add_mul, Nat.mul_assoc]
  · have e : nD rd.size = 0 := by have := ht h0; unfold nD; omega
    rw [e, List.take_zero, val_nil, Nat.zero_mul, Nat.add_zero, Nat.pow_zero, Nat.mul_one, Nat.add_zero, Nat.zero_add, Nat.pow_add, Nat.mul_assoc]
theorem want_step (s : ByteArray) (k : Nat) (hk : k < s.size) : IntKind.u64.wrap (IntKind.u64.wrap (U (val (s.data.toList.take k)) * 10) + (dig s[k] : Int)) = U (val (s.data.toList.take (k + 1))) := by
  have e2 := wrap_U_mul (val (s.data.toList.take k)) 10
  have e3 : IntKind.u64.wrap (U (val (s.data.toList.take k)) * 10) = U (val (s.data.toList.take k) * 10) := e2
  rw [e3, wrap_U_add, take_step s k hk, val_snoc]
theorem tail_is (rd rd2 : ByteArray) (D : Nat) (H : rd2.data.toList = rd.data.toList.drop D) : (rd2.toList == (rd.extract (rd.size - rd2.size) rd.size).toList) = true := by
  apply beq_of
  rw [ByteArray.toList_eq, ByteArray.toList_eq]
  have e : (rd.extract (rd.size - rd2.size) rd.size).data.toList = (rd.data.toList.drop (rd.size - rd2.size)).take (rd.size - (rd.size - rd2.size)) := by
    simp [ByteArray.extract, ByteArray.copySlice]
  rw [e, H, List.take_of_length_le (by rw [List.length_drop, len_size]; omega)]
  have hl := congrArg List.length H
  rw [List.length_drop, len_size, len_size] at hl
  by_cases h : D ≤ rd.size
  · congr 1; omega
  · rw [List.drop_eq_nil_of_le (by rw [len_size]; omega), List.drop_eq_nil_of_le (by rw [len_size]; omega)]
theorem size_of (rd rd2 : ByteArray) (H : rd2.data.toList = rd.data.toList.drop (nD rd.size)) : rd2.size + nD rd.size = rd.size := by
  have hl := congrArg List.length H
  rw [List.length_drop, len_size, len_size] at hl
  rw [hl]; unfold nD; omega
theorem drop_more (s rd rd2 : ByteArray) (d D : Nat) (H : rd.data.toList = s.data.toList.drop d) (H2 : rd2.data.toList = rd.data.toList.drop D) : rd2.data.toList = s.data.toList.drop (d + D) := by
  rw [H2, H, List.drop_drop]
theorem end_c (rd : ByteArray) (z : Int) (h : rd.size = 0) (hz : z ≤ 0) : chC rd.data.toList z = 0 ∧ chP rd.data.toList z = 1 ∧ nD rd.size = 0 ∧ nT rd.size z = 0 := by
  have e1 : nD rd.size = 0 := by unfold nD; omega
  have e2 : nT rd.size z = 0 := by unfold nT; omega
  unfold chC chP
  rw [len_size, e1, e2]
  exact ⟨by rw [List.take_zero, val_nil, Nat.zero_mul]; rfl, rfl, rfl, rfl⟩
theorem acc_end (s : ByteArray) (d t zp : Nat) (hd : d = s.size) (ht : t = zp) : U (val (s.data.toList.take d) * 10 ^ t) = U (val s.data.toList * 10 ^ zp) := by
  subst ht hd
  rw [List.take_of_length_le (by rw [len_size]; exact Nat.le_refl _)]
theorem acc_step0 (s rd : ByteArray) (d : Nat) (z c p : Int) (H : rd.data.toList = s.data.toList.drop d) (hsz : rd.size + d = s.size) (hz : z ≤ 0)
    (hc : c = chC rd.data.toList z) (hp : p = chP rd.data.toList z) :
    IntKind.u64.wrap (IntKind.u64.wrap (U (val (s.data.toList.take d)) * p) + c) = U (val (s.data.toList.take (d + nD rd.size))) := by
  have e := acc_step s rd d 0 z c p H hsz (by omega) hc hp
  have e2 : nT rd.size z = 0 := by unfold nT; omega
  rw [e2, Nat.pow_zero, Nat.mul_one, Nat.mul_one] at e
  exact e
theorem acc_end0 (s : ByteArray) (d m : Nat) (hd : d = s.size) (hm : m = 0) : U (val (s.data.toList.take d)) = U (val s.data.toList * 10 ^ m) := by
  have e := acc_end s d 0 m hd hm.symm
  rw [Nat.pow_zero, Nat.mul_one] at e
  exact e
end Go.Proofs.Qxb6627743a
