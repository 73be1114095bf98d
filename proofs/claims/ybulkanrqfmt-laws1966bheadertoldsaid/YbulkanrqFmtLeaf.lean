/-
  THE LEAVES: binary.BigEndian.Uint16; zzs1966bu16.
-/
import Derived.Test.YbulkanrqFmtRows
import Derived.Test.YbulkanrqFmtPlain
import Derived.WalkKit
import Derived.WalkSpells
import Derived.Deep.QuietTactic
import Derived.BigQuiet
import Derived.Laws.BytesArg
import Derived.OwnWalk
namespace Go.Proofs.YbulkanrqFmt
open Go.RowKit

theorem hid {p : Prop} (h : p) : Hid p := h
theorem ret_int {k : IntKind} {a b : Int} (h : a = b) : Ending.returned (.int k a) = .returned (.int k b) := by rw [h]
theorem cell_of {B : Nat} {X W : World} (h : Below B X W) {g i : Nat} {v : Value} (hg : g < B) (hc : X.cell? ⟨g, i, none⟩ = some v) : W.cell? ⟨g, i, none⟩ = some v := (h.cell (p := ⟨g, i, none⟩) hg).trans hc

set_option maxHeartbeats 400000 in
theorem u16_any (g o n cap : Nat) (c0 c1 : Int) (w : World) (hn : 2 ≤ n) (h0 : w.cell? ⟨g, o, none⟩ = some (.int .u8 c0)) (h1 : w.cell? ⟨g, o + 1, none⟩ = some (.int .u8 c1))
    (b0 : 0 ≤ c0 ∧ c0 ≤ 255) (b1 : 0 ≤ c1 ∧ c1 ≤ 255) :
    Calls Ybaf.prog 16 #[.agg #[], .slice (some ⟨g, o, none⟩) n cap] w fun e w' => e = .returned (.int .u16 (c0 * 256 + c1)) ∧ w' = (w.alloc (.cells #[] 78)).drew := by
  have hb : g < w.heap.size := block_lt_of_cell h0
  have k1 : (1 : Int) < (n : Int) := by omega
  have k0 : (0 : Int) < (n : Int) := by omega
  go_enter Ybaf.func16, Ybaf.ntmps16
  go_wp2
  go_region
  go_wp2
  go_ret
  exact ⟨ret_int (or16 b0 b1), rfl⟩

theorem u16_is (g o n cap : Nat) (c0 c1 v : Int) (hv : c0 * 256 + c1 = v) (w : World) (hn : 2 ≤ n) (h0 : w.cell? ⟨g, o, none⟩ = some (.int .u8 c0)) (h1 : w.cell? ⟨g, o + 1, none⟩ = some (.int .u8 c1))
    (b0 : 0 ≤ c0 ∧ c0 ≤ 255) (b1 : 0 ≤ c1 ∧ c1 ≤ 255) :
    Calls Ybaf.prog 16 #[.agg #[], .slice (some ⟨g, o, none⟩) n cap] w fun e w' => e = .returned (.int .u16 v) ∧ w' = (w.alloc (.cells #[] 78)).drew := by
  subst hv; exact u16_any g o n cap c0 c1 w hn h0 h1 b0 b1

set_option maxHeartbeats 400000 in
theorem zz16 (g n cap : Nat) (i : Nat) (c0 c1 v : Int) (hv : c0 * 256 + c1 = v) (w : World) (hn : i + 1 < n) (hN : n < 100000) (h0 : w.cell? ⟨g, i, none⟩ = some (.int .u8 c0)) (h1 : w.cell? ⟨g, i + 1, none⟩ = some (.int .u8 c1))
    (b0 : 0 ≤ c0 ∧ c0 ≤ 255) (b1 : 0 ≤ c1 ∧ c1 ≤ 255) :
    Calls Ybaf.prog 8 #[.slice (some ⟨g, 0, none⟩) n cap, .int .i64 i] w fun e w' => e = .returned (.int .i64 v) ∧ w.drew = w' := by
  have hb : g < w.heap.size := block_lt_of_cell h0
  have k1 : (i : Int) + 1 < (n : Int) := by omega
  have k0 : (i : Int) < (n : Int) := by omega
  subst hv
  go_enter Ybaf.func8, Ybaf.ntmps8
  go_wp2
  go_region
  go_wp2
  go_ret
  exact ⟨ret_int (ori64 b0 b1), rfl⟩
end Go.Proofs.YbulkanrqFmt
