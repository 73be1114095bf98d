/-
  PLAIN: two numbers whose bits lie apart, or-ed.
-/
import Derived.Laws.BitsAllLaws
namespace Go.Proofs.YbulkanrqDoor
open Go

theorem or_add (i a b : Nat) (h : b < 2 ^ i) : b ||| (a * 2 ^ i) = a * 2 ^ i + b := by
  rw [Nat.or_comm, Nat.mul_comm a, ← Nat.two_pow_add_eq_or_of_lt h]

theorem or16 {a b : Int} (ha : 0 ≤ a ∧ a ≤ 255) (hb : 0 ≤ b ∧ b ≤ 255) : bits .or .u16 b (a * 256) = a * 256 + b := by
  rw [u16_or b (a * 256) (by omega) (by omega) (by omega) (by omega)]
  have h := or_add 8 a.toNat b.toNat (by omega)
  rw [show (a * 256).toNat = a.toNat * 2 ^ 8 by omega, h]
  omega

theorem or32 {a b c d : Int} (ha : 0 ≤ a ∧ a ≤ 255) (hb : 0 ≤ b ∧ b ≤ 255) (hc : 0 ≤ c ∧ c ≤ 255) (hd : 0 ≤ d ∧ d ≤ 255) :
    bits .or .u32 (bits .or .u32 (bits .or .u32 d (c * 256)) (b * 65536)) (a * 16777216) = a * 16777216 + b * 65536 + c * 256 + d := by
  have e1 : bits .or .u32 d (c * 256) = c * 256 + d := by
    rw [u32_or d (c * 256) (by omega) (by omega) (by omega) (by omega)]
    have h := or_add 8 c.toNat d.toNat (by omega)
    rw [show (c * 256).toNat = c.toNat * 2 ^ 8 by omega, h]
    omega
  have e2 : bits .or .u32 (c * 256 + d) (b * 65536) = b * 65536 + (c * 256 + d) := by
    rw [u32_or (c * 256 + d) (b * 65536) (by omega) (by omega) (by omega) (by omega)]
    have h := or_add 16 b.toNat (c * 256 + d).toNat (by omega)
    rw [show (b * 65536).toNat = b.toNat * 2 ^ 16 by omega, h]
    omega
  rw [e1, e2, u32_or _ (a * 16777216) (by omega) (by omega) (by omega) (by omega)]
  have h := or_add 24 a.toNat (b * 65536 + (c * 256 + d)).toNat (by omega)
  rw [show (a * 16777216).toNat = a.toNat * 2 ^ 24 by omega, h]
  omega

theorem or64 {a b : Int} (ha : 0 ≤ a ∧ a ≤ 65535) (hb : 0 ≤ b ∧ b ≤ 4294967295) : bits .or .u64 (a * 4294967296) b = a * 4294967296 + b := by
  rw [u64_or (a * 4294967296) b (by omega) (by omega) (by omega) (by omega), Nat.or_comm]
  have h := or_add 32 a.toNat b.toNat (by omega)
  rw [show (a * 4294967296).toNat = a.toNat * 2 ^ 32 by omega, h]
  omega
end Go.Proofs.YbulkanrqDoor
