/-
  THE WALK of NewWalker.
-/
import Derived.Test.YbulkanrqFmtStart
namespace Go.Proofs.YbulkanrqFmt
open Go.RowKit

set_option maxRecDepth 100000
/-- The cells of a Walker that was just made, those that the law reads. -/
structure Zeros (Z : Nat → Value) : Prop where
  next : Z 9 = .int .i64 0
  e0 : Z 11 = .int .u8 0
  e1 : Z 12 = .int .i64 0
  e2 : Z 13 = .int .i64 0
  e3 : Z 14 = .int .u16 0
  e4 : Z 15 = .int .u16 0
  e5 : Z 16 = .int .u32 0
  e6 : Z 17 = .int .u16 0
  e7 : Z 18 = .int .i64 0
  e8 : Z 19 = .int .i64 0
  table : Z 84 = .pointer none
  spent : Z 85 = .int .i64 0
  err : Z 86 = .nilIface
theorem zero_size : Ybaf.zeroCells49.size = 87 := by kernel_rfl
theorem zero_cells : ∃ Z : Nat → Value, Zeros Z ∧ ∀ (X : World) (i : Nat), i < 87 → (X.alloc (.cells Ybaf.zeroCells49 49)).cell? ⟨X.heap.size, i, none⟩ = some (Z i) := by
  refine ⟨fun i => Ybaf.zeroCells49.getD i undef, ⟨by kernel_rfl, by kernel_rfl, by kernel_rfl, by kernel_rfl, by kernel_rfl, by kernel_rfl, by kernel_rfl, by kernel_rfl, by kernel_rfl, by kernel_rfl, by kernel_rfl, by kernel_rfl, by kernel_rfl⟩, fun X i hi => ?_⟩
  rw [World.cell?_alloc_mark]
  show _ = some (Ybaf.zeroCells49.getD i undef)
  rw [Array.getD_eq_getD_getElem?]
  have := zero_size
  rw [Array.getElem?_eq_getElem (by omega)]
  rfl
/-- What the Walker holds. -/
def cellsF (c : Nat → Int) (Z : Nat → Value) (g n cap i : Nat) : Value := if i = 10 then .int .i64 12 else if i = 4 then .slice (some ⟨g, 0, none⟩) n cap else cellsW c Z 4 i
set_option maxHeartbeats 1000000 in
theorem new_ok (X : World) (g n cap : Nat) (c : Nat → Int) (h12 : 12 ≤ n) (hN : n < 100000) (hg : g < X.heap.size)
    (hc : ∀ i, i < 12 → X.cell? ⟨g, i, none⟩ = some (.int .u8 (c i))) (hb : ∀ i, i < 12 → 0 ≤ c i ∧ c i ≤ 255) :
    Calls Ybaf.prog 6 #[.slice (some ⟨g, 0, none⟩) n cap] X fun e w' => e = .returned (.tuple #[.pointer (some ⟨X.heap.size, 0, none⟩), .nilIface]) ∧ ∃ Z, Zeros Z ∧ Filled X w' X.heap.size (cellsF c Z g n cap) := by
  obtain ⟨Z, hZ, hz⟩ := zero_cells
  have HZ := hid hz
  clear hz
  have HC := hid hc
  have HB := hid hb
  clear hc hb
  go_enter Ybaf.func6, Ybaf.ntmps6
  go_wp2_with fail
  refine (start_ok (X.alloc (.cells Ybaf.zeroCells49 49)) g n cap c X.heap.size Z h12 hN hg (by simp) (fun i hi => cell_of ((Below.refl X.heap.size X).alloc (Nat.le_refl _) _) hg (HC.out i hi)) HB.out (fun i hi => HZ.out X i hi) (fun i => by simp)).mono ?_
  rintro e w' ⟨rfl, hF⟩
  have HF := hid hF
  clear hF
  go_wp2
  go_ret2
  exact ⟨rfl, Z, hZ, ((Below.refl X.heap.size X).alloc (Nat.le_refl _) _).trans HF.out.below, HF.out.size, HF.out.free, HF.out.cell⟩
end Go.Proofs.YbulkanrqFmt
