/-
  PLAIN: the bits of a header.
-/
import Derived.Laws.BitsAllLaws
import Derived.Laws.BitsLemmas
namespace Go.Proofs.YbulkanrqFmt
open Go

theorem or_add (i a b : Nat) (h : b < 2 ^ i) : b ||| (a * 2 ^ i) = a * 2 ^ i + b := by
  rw [Nat.or_comm, Nat.mul_comm a, ← Nat.two_pow_add_eq_or_of_lt h]

theorem or16 {a b : Int} (ha : 0 ≤ a ∧ a ≤ 255) (hb : 0 ≤ b ∧ b ≤ 255) : bits .or .u16 b (a * 256) = a * 256 + b := by
  rw [u16_or b (a * 256) (by omega) (by omega) (by omega) (by omega)]
  have h := or_add 8 a.toNat b.toNat (by omega)
  rw [show (a * 256).toNat = a.toNat * 2 ^ 8 by omega, h]
  omega

theorem ofInt_i64 (a : Nat) (ha : a < 65536) : (BitVec.ofInt 64 (a : Int)).toNat = a := by
  rw [BitVec.ofInt_natCast, BitVec.toNat_ofNat]; exact Nat.mod_eq_of_lt (by omega)
theorem i64_and_nat (a b : Nat) (ha : a < 65536) (hb : b < 65536) : bits .and .i64 (a : Int) (b : Int) = ((a &&& b : Nat) : Int) := by
  have hx : a &&& b < 2 ^ 16 := Nat.and_lt_two_pow _ (by omega)
  show IntKind.i64.wrap ((BitVec.ofInt 64 (a : Int) &&& BitVec.ofInt 64 (b : Int)).toNat : Int) = _
  rw [BitVec.toNat_and, ofInt_i64 a ha, ofInt_i64 b hb, IntKind.wrap_i64]
  omega
theorem i64_and (a b : Int) (h1 : 0 ≤ a) (h2 : a < 65536) (h3 : 0 ≤ b) (h4 : b < 65536) : bits .and .i64 a b = ((a.toNat &&& b.toNat : Nat) : Int) := by
  obtain ⟨A, rfl⟩ := Int.eq_ofNat_of_zero_le h1
  obtain ⟨B, rfl⟩ := Int.eq_ofNat_of_zero_le h3
  simpa using i64_and_nat A B (by omega) (by omega)
theorem i64_or_nat (a b : Nat) (ha : a < 65536) (hb : b < 65536) : bits .or .i64 (a : Int) (b : Int) = ((a ||| b : Nat) : Int) := by
  have hx : a ||| b < 2 ^ 16 := Nat.or_lt_two_pow (by omega) (by omega)
  show IntKind.i64.wrap ((BitVec.ofInt 64 (a : Int) ||| BitVec.ofInt 64 (b : Int)).toNat : Int) = _
  rw [BitVec.toNat_or, ofInt_i64 a ha, ofInt_i64 b hb, IntKind.wrap_i64]
  omega

theorem ori64 {a b : Int} (ha : 0 ≤ a ∧ a ≤ 255) (hb : 0 ≤ b ∧ b ≤ 255) : bits .or .i64 (a * 256) b = a * 256 + b := by
  obtain ⟨A, rfl⟩ := Int.eq_ofNat_of_zero_le ha.1
  obtain ⟨B, rfl⟩ := Int.eq_ofNat_of_zero_le hb.1
  have h := or_add 8 A B (by omega)
  have h2 := i64_or_nat (A * 256) B (by omega) (by omega)
  rw [show ((A * 256 : Nat) : Int) = (A : Int) * 256 by omega] at h2
  rw [h2, Nat.or_comm]
  rw [show A * 256 = A * 2 ^ 8 by omega, h]
  omega

theorem and15_16 {a : Int} (ha : 0 ≤ a ∧ a < 65536) : bits .and .u16 a 15 = a % 16 := by
  rw [u16_and a 15 ha.1 ha.2 (by omega) (by omega), show (15 : Int).toNat = 2 ^ 4 - 1 by rfl, Nat.and_two_pow_sub_one_eq_mod]
  omega
theorem and15_64 {a : Int} (ha : 0 ≤ a ∧ a < 65536) : bits .and .i64 a 15 = a % 16 := by
  rw [i64_and a 15 ha.1 ha.2 (by omega) (by omega), show (15 : Int).toNat = 2 ^ 4 - 1 by rfl, Nat.and_two_pow_sub_one_eq_mod]
  omega
theorem flags_eq {a : Int} (ha : 0 ≤ a ∧ a < 65536) : bits .and .i64 a 34736 = bits .and .u16 a 34736 := by
  rw [u16_and a _ ha.1 ha.2 (by omega) (by omega), i64_and a _ ha.1 ha.2 (by omega) (by omega)]
theorem flags_range {a : Int} (ha : 0 ≤ a ∧ a < 65536) : 0 ≤ bits .and .u16 a 34736 ∧ bits .and .u16 a 34736 < 65536 := by
  rw [u16_and a _ ha.1 ha.2 (by omega) (by omega)]
  have hx : a.toNat &&& (34736 : Int).toNat < 2 ^ 16 := Nat.and_lt_two_pow _ (by decide)
  omega
end Go.Proofs.YbulkanrqFmt
