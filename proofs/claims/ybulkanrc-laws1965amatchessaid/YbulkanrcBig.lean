/-
  'zzs1965atoobig'; what is told of a slice of entries.
-/
import Derived.Test.YbulkanrcLeaf
namespace Go.Proofs.Ybulkanrc
open Go.RowKit

/-- A slice of n bytes that lies in w. -/
def Bytes (w : World) (a : Option Addr) (n : Nat) (Z : Nat → Int) : Prop :=
  n = 0 ∨ ∃ b off, a = some ⟨b, off, none⟩ ∧ b < w.heap.size ∧ ∀ i, i < n → w.cell? ⟨b, off + i, none⟩ = some (.int .u8 (Z i)) ∧ 0 ≤ Z i ∧ Z i ≤ 255

theorem Bytes.later {w w1 : World} {B : Nat} {a : Option Addr} {n : Nat} {Z : Nat → Int} (h : Bytes w a n Z) (hB : w.heap.size ≤ B) (hb : Below B w w1) : Bytes w1 a n Z := by
  rcases h with h | ⟨b, off, rfl, h1, h2⟩
  · exact .inl h
  · exact .inr ⟨b, off, rfl, Nat.lt_of_lt_of_le h1 hb.size, fun i hi => ⟨(hb.cell (p := ⟨b, off + i, none⟩) (Nat.lt_of_lt_of_le h1 hB)).trans (h2 i hi).1, (h2 i hi).2⟩⟩

/-- A slice of entries that lies in w: entry i has the name N i, and its values are the slice A i, L i, C i, whose bytes are Z i. -/
def Entries (w : World) (a : Option Addr) (len : Nat) (N : Nat → Int) (A : Nat → Option Addr) (L C : Nat → Nat) (Z : Nat → Nat → Int) : Prop :=
  len = 0 ∨ ∃ b off, a = some ⟨b, off, none⟩ ∧ b < w.heap.size ∧ ∀ i, i < len → w.cell? ⟨b, off + i * 2, none⟩ = some (.int .u8 (N i)) ∧ w.cell? ⟨b, off + i * 2 + 1, none⟩ = some (.slice (A i) (L i) (C i)) ∧
    (0 ≤ N i ∧ N i ≤ 255) ∧ Bytes w (A i) (L i) (Z i)

theorem Entries.at {w : World} {a : Option Addr} {len : Nat} {N : Nat → Int} {A : Nat → Option Addr} {L C : Nat → Nat} {Z : Nat → Nat → Int} (h : Entries w a len N A L C Z) {w1 : World} (hb : Below w.heap.size w w1) {k : Nat} (hk : k < len) :
    ∃ b off, a = some ⟨b, off, none⟩ ∧ b < w.heap.size ∧ w1.cell? ⟨b, off + k * 2, none⟩ = some (.int .u8 (N k)) ∧ w1.cell? ⟨b, off + k * 2 + 1, none⟩ = some (.slice (A k) (L k) (C k)) ∧ (0 ≤ N k ∧ N k ≤ 255) ∧ Bytes w (A k) (L k) (Z k) := by
  rcases h with h | ⟨b, off, rfl, h1, h2⟩
  · omega
  · obtain ⟨q1, q2, q3, q4⟩ := h2 k hk
    exact ⟨b, off, rfl, h1, (hb.cell (p := ⟨b, off + k * 2, none⟩) h1).trans q1, (hb.cell (p := ⟨b, off + k * 2 + 1, none⟩) h1).trans q2, q3, q4⟩

variable {N : Nat → Int} {A : Nat → Option Addr} {L C : Nat → Nat} {Z : Nat → Nat → Int}

set_option maxHeartbeats 400000 in
theorem big_no (a : Option Addr) (len cap : Nat) (w : World) (hE : Entries w a len N A L C Z) (hm : len ≤ 300) (hL : ∀ i, i < len → L i ≤ 300) :
    Calls Yba.prog 5 #[.slice a len cap] w fun e w' => e = .returned (.bool false) ∧ w' = w := by
  have HE := hid hE
  have HL := hid hL
  clear hE hL
  go_enter Yba.func5, Yba.ntmps5
  go_wp2
  go_loop [9] (fun i => ∃ k : Nat, k ≤ len ∧ i = .int .i64 k) (fun i => len - (intOf i).toNat)
  case atStart => exact ⟨0, Nat.zero_le _, rfl⟩
  case round =>
    obtain ⟨k, hk, rfl⟩ := hrel
    by_cases hlt : k < len
    · obtain ⟨b, off, e0, hb, h1, h2, _, _⟩ := HE.out.at (Below.refl _ _) hlt
      have h3 := HL.out k hlt
      rw [e0]
      go_wp2
      go_round
      case rel => exact ⟨k + 1, by omega, by go_num⟩
      case measure => simp [intOf]; omega
    · go_wp2
      go_ret
      exact ⟨rfl, rfl⟩

set_option maxHeartbeats 400000 in
theorem big_yes (a : Option Addr) (len cap : Nat) (w : World) (hE : Entries w a len N A L C Z) (hm : len ≤ 9223372036854775807) (h : ¬ (len ≤ 300 ∧ ∀ i, i < len → L i ≤ 300)) :
    Calls Yba.prog 5 #[.slice a len cap] w fun e w' => e = .returned (.bool true) ∧ w' = w := by
  by_cases h3 : len ≤ 300
  · have HE := hid hE
    have H := hid h
    clear hE h
    go_enter Yba.func5, Yba.ntmps5
    go_wp2
    go_loop [9] (fun i => ∃ k : Nat, k ≤ len ∧ i = .int .i64 k ∧ ∀ j, j < k → L j ≤ 300) (fun i => len - (intOf i).toNat)
    case atStart => exact ⟨0, Nat.zero_le _, rfl, fun j hj => absurd hj (Nat.not_lt_zero j)⟩
    case round =>
      obtain ⟨k, hk, rfl, hno⟩ := hrel
      have HN := hid hno
      clear hno
      by_cases hlt : k < len
      · obtain ⟨b, off, e0, hb, h1, h2, _, _⟩ := HE.out.at (Below.refl _ _) hlt
        rw [e0]
        by_cases hq : L k ≤ 300
        · go_wp2
          go_round
          case rel => exact ⟨k + 1, by omega, by go_num, fun j hj => by
            by_cases e : j = k
            · subst e; exact hq
            · exact HN.out j (by omega)⟩
          case measure => simp [intOf]; omega
        · go_wp2
          go_ret
          exact ⟨rfl, rfl⟩
      · exact absurd ⟨h3, fun i hi => HN.out i (by omega)⟩ H.out
  · go_enter Yba.func5, Yba.ntmps5
    go_wp2
    go_ret
    exact ⟨rfl, rfl⟩
end Go.Proofs.Ybulkanrc
