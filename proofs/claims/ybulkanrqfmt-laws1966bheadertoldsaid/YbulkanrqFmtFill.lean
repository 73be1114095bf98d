/-
  THE WALK of (*Walker).start, at a message of twelve octets or more.
-/
import Derived.Test.YbulkanrqFmtLeaf
import Derived.Deep.RegionHeld3
import Derived.Laws.Cover3
import Derived.LoopN
namespace Go.Proofs.YbulkanrqFmt
open Go.RowKit

/-- Two octets as a number. -/
def two (c : Nat → Int) (i : Nat) : Int := c i * 256 + c (i + 1)
/-- The running sums. -/
def sums (c : Nat → Int) : Nat → Int
  | 0 => 0
  | k + 1 => sums c k + two c (4 + 2 * k)
/-- The Walker's cells, when k sums are filled in. -/
def cellsW (c : Nat → Int) (Z : Nat → Value) (k i : Nat) : Value :=
  if i = 0 then .int .u16 (two c 0) else if i = 1 then .int .u8 (two c 2 / 2048 % 16) else if i = 2 then .int .u16 (two c 2 % 16) else if i = 3 then .int .u16 (bits .and .u16 (two c 2) 34736)
  else if 5 ≤ i ∧ i < 5 + k then .int .i64 (sums c (i - 4)) else Z i
structure Filled (X W : World) (b : Nat) (V : Nat → Value) : Prop where
  below : Below b X W
  size : b < W.heap.size
  free : ∀ i, W.frozen? ⟨b, i, none⟩ = false
  cell : ∀ i, i < 87 → W.cell? ⟨b, i, none⟩ = some (V i)
theorem Filled.drew {X W : World} {b : Nat} {V : Nat → Value} (h : Filled X W b V) : Filled X W.drew b V :=
  ⟨h.below.drew, by simpa using h.size, fun i => by simpa using h.free i, fun i hi => by simpa using h.cell i hi⟩
theorem Filled.alloc {X W : World} {b : Nat} {V : Nat → Value} (h : Filled X W b V) (o : Obj) : Filled X (W.alloc o) b V :=
  ⟨h.below.alloc (Nat.le_of_lt h.size) o, by have := h.size; simp; omega,
   fun i => (((Below.refl W.heap.size W).alloc (Nat.le_refl _) o).frozen (p := ⟨b, i, none⟩) h.size).trans (h.free i),
   fun i hi => (((Below.refl W.heap.size W).alloc (Nat.le_refl _) o).cell (p := ⟨b, i, none⟩) h.size).trans (h.cell i hi)⟩
theorem Filled.set {X W : World} {b : Nat} {V V' : Nat → Value} (h : Filled X W b V) (j : Nat) (v : Value) (hv : V' j = v) (ho : ∀ i, i ≠ j → V' i = V i) : Filled X (W.setCell ⟨b, j, none⟩ v) b V' :=
  ⟨h.below.setCell (Nat.le_refl _) v, by simpa using h.size, fun i => by simpa using h.free i, fun i hi => by
    by_cases e : i = j
    · subst e
      rw [hv]
      exact World.cell?_setCell_same _ _ _ (h.cell i hi)
    · rw [ho i e, ← h.cell i hi]
      exact World.cell?_setCell_other _ _ _ _ (fun h' => e (by injection h' with _ h2; exact h2.symm))⟩
theorem Filled.put {X W : World} {b : Nat} {V : Nat → Value} (h : Filled X W b V) (j : Nat) (v : Value) : Filled X (W.setCell ⟨b, j, none⟩ v) b (fun i => if i = j then v else V i) :=
  h.set j v (if_pos rfl) (fun _ hi => if_neg hi)
theorem Filled.congr {X W : World} {b : Nat} {V V' : Nat → Value} (h : Filled X W b V) (he : ∀ i, i < 87 → V i = V' i) : Filled X W b V' :=
  ⟨h.below, h.size, h.free, fun i hi => (h.cell i hi).trans (by rw [he i hi])⟩
theorem two_range {c : Nat → Int} {n i : Nat} (hb : ∀ i, i < n → 0 ≤ c i ∧ c i ≤ 255) (hi : i + 1 < n) : 0 ≤ two c i ∧ two c i < 65536 := by
  have h1 := hb i (by omega)
  have h2 := hb (i + 1) hi
  unfold two
  omega
theorem sums_range {c : Nat → Int} (hb : ∀ i, i < 12 → 0 ≤ c i ∧ c i ≤ 255) : ∀ k, k ≤ 4 → 0 ≤ sums c k ∧ sums c k ≤ 65535 * k
  | 0, _ => by simp [sums]
  | k + 1, hk => by
    have h1 := sums_range hb k (by omega)
    have h2 := two_range hb (i := 4 + 2 * k) (by omega)
    simp only [sums]
    omega
theorem filled_start {X W : World} {b : Nat} {Z : Nat → Value} {c : Nat → Int} (h2 : 0 ≤ two c 2 ∧ two c 2 < 65536) (h : Filled X W b Z) :
    Filled X ((((W.setCell ⟨b, 0, none⟩ (.int .u16 (two c 0))).setCell ⟨b, 1, none⟩ (.int .u8 (bits .and .u16 (two c 2 / 2048) 15 % 256))).setCell ⟨b, 2, none⟩ (.int .u16 (bits .and .u16 (two c 2) 15))).setCell ⟨b, 3, none⟩ (.int .u16 (bits .and .u16 (two c 2) 34736))) b (cellsW c Z 0) := by
  refine ((((h.put 0 _).put 1 _).put 2 _).put 3 _).congr fun i _ => ?_
  rw [and15_16 (a := two c 2 / 2048) (by omega), and15_16 h2, show two c 2 / 2048 % 16 % 256 = two c 2 / 2048 % 16 by omega]
  unfold cellsW
  have h5 : ¬ (5 ≤ i ∧ i < 5 + 0) := by omega
  rw [if_neg h5]
  by_cases e0 : i = 0
  · subst e0; rfl
  by_cases e1 : i = 1
  · subst e1; rfl
  by_cases e2 : i = 2
  · subst e2; rfl
  by_cases e3 : i = 3
  · subst e3; rfl
  simp only [e0, e1, e2, e3, if_false]
theorem filled_sum {X W : World} {b : Nat} {Z : Nat → Value} {c : Nat → Int} {k : Nat} (h : Filled X W b (cellsW c Z k)) : Filled X (W.setCell ⟨b, 5 + k, none⟩ (.int .i64 (sums c (k + 1)))) b (cellsW c Z (k + 1)) := by
  refine (h.put (5 + k) _).congr fun i _ => ?_
  unfold cellsW
  by_cases e0 : i = 0
  · subst e0; rw [if_neg (by omega)]; rfl
  by_cases e1 : i = 1
  · subst e1; rw [if_neg (by omega)]; rfl
  by_cases e2 : i = 2
  · subst e2; rw [if_neg (by omega)]; rfl
  by_cases e3 : i = 3
  · subst e3; rw [if_neg (by omega)]; rfl
  rw [if_neg e0, if_neg e1, if_neg e2, if_neg e3, if_neg e0, if_neg e1, if_neg e2, if_neg e3]
  by_cases e : i = 5 + k
  · subst e
    rw [if_pos rfl, if_pos (by omega), show 5 + k - 4 = k + 1 by omega]
  · rw [if_neg e]
    by_cases e' : 5 ≤ i ∧ i < 5 + k
    · rw [if_pos e', if_pos (by omega)]
    · rw [if_neg e', if_neg (by omega)]
end Go.Proofs.YbulkanrqFmt
