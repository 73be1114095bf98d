/-
  THE LEAVES: binary.BigEndian.Uint16, Uint32; put16; bytes.Equal; errors.New; (*decoder).fail.
-/
import Derived.Test.YbulkanrqDoorRows
import Derived.Test.YbulkanrqDoorPlain
import Derived.WalkKit
import Derived.WalkSpells
import Derived.Deep.QuietTactic
import Derived.BigQuiet
import Derived.Laws.BytesArg
import Derived.OwnWalk
namespace Go.Proofs.YbulkanrqDoor
open Go.RowKit

theorem hid {p : Prop} (h : p) : Hid p := h
theorem ret_int {k : IntKind} {a b : Int} (h : a = b) : Ending.returned (.int k a) = .returned (.int k b) := by rw [h]

set_option maxHeartbeats 400000 in
theorem u16_any (g o n cap : Nat) (c0 c1 : Int) (w : World) (hn : 2 ≤ n) (h0 : w.cell? ⟨g, o, none⟩ = some (.int .u8 c0)) (h1 : w.cell? ⟨g, o + 1, none⟩ = some (.int .u8 c1))
    (b0 : 0 ≤ c0 ∧ c0 ≤ 255) (b1 : 0 ≤ c1 ∧ c1 ≤ 255) :
    Calls Ybad.prog 9 #[.agg #[], .slice (some ⟨g, o, none⟩) n cap] w fun e w' => e = .returned (.int .u16 (c0 * 256 + c1)) ∧ w' = (w.alloc (.cells #[] 46)).drew := by
  have hb : g < w.heap.size := block_lt_of_cell h0
  have k1 : (1 : Int) < (n : Int) := by omega
  have k0 : (0 : Int) < (n : Int) := by omega
  go_enter Ybad.func9, Ybad.ntmps9
  go_wp2
  go_region
  go_wp2
  go_ret
  exact ⟨ret_int (or16 b0 b1), rfl⟩

set_option maxHeartbeats 1000000 in
theorem u32_any (g o n cap : Nat) (c0 c1 c2 c3 : Int) (w : World) (hn : 4 ≤ n) (h0 : w.cell? ⟨g, o, none⟩ = some (.int .u8 c0)) (h1 : w.cell? ⟨g, o + 1, none⟩ = some (.int .u8 c1)) (h2 : w.cell? ⟨g, o + 2, none⟩ = some (.int .u8 c2)) (h3 : w.cell? ⟨g, o + 3, none⟩ = some (.int .u8 c3))
    (b0 : 0 ≤ c0 ∧ c0 ≤ 255) (b1 : 0 ≤ c1 ∧ c1 ≤ 255) (b2 : 0 ≤ c2 ∧ c2 ≤ 255) (b3 : 0 ≤ c3 ∧ c3 ≤ 255) :
    Calls Ybad.prog 10 #[.agg #[], .slice (some ⟨g, o, none⟩) n cap] w fun e w' => e = .returned (.int .u32 (c0 * 16777216 + c1 * 65536 + c2 * 256 + c3)) ∧ w' = (w.alloc (.cells #[] 46)).drew := by
  have hb : g < w.heap.size := block_lt_of_cell h0
  have k3 : (3 : Int) < (n : Int) := by omega
  have k2 : (2 : Int) < (n : Int) := by omega
  have k1 : (1 : Int) < (n : Int) := by omega
  have k0 : (0 : Int) < (n : Int) := by omega
  go_enter Ybad.func10, Ybad.ntmps10
  go_wp2
  go_region
  go_wp2
  go_ret
  exact ⟨ret_int (or32 b0 b1 b2 b3), rfl⟩

/-- A slice of n bytes that lies in w. -/
def Bytes (w : World) (a : Option Addr) (n : Nat) (Z : Nat → Int) : Prop :=
  n = 0 ∨ ∃ b off, a = some ⟨b, off, none⟩ ∧ b < w.heap.size ∧ ∀ i, i < n → w.cell? ⟨b, off + i, none⟩ = some (.int .u8 (Z i)) ∧ 0 ≤ Z i ∧ Z i ≤ 255

theorem Bytes.later {w w1 : World} {B : Nat} {a : Option Addr} {n : Nat} {Z : Nat → Int} (h : Bytes w a n Z) (hB : w.heap.size ≤ B) (hb : Below B w w1) : Bytes w1 a n Z := by
  rcases h with h | ⟨b, off, rfl, h1, h2⟩
  · exact .inl h
  · exact .inr ⟨b, off, rfl, Nat.lt_of_lt_of_le h1 hb.size, fun i hi => ⟨(hb.cell (p := ⟨b, off + i, none⟩) (Nat.lt_of_lt_of_le h1 hB)).trans (h2 i hi).1, (h2 i hi).2⟩⟩

/-- 'string(b)': one string for every slice that holds these bytes. -/
theorem conv_bytes (n : Nat) (Z : Nat → Int) : ∃ s : ByteArray, ∀ (w : World) (a : Option Addr) (cap : Nat), Bytes w a n Z → (convert 24 9 (.slice a n cap)).run Ybad.prog w = .ok (.string s) w := by
  by_cases h0 : n = 0
  · subst h0
    refine ⟨ByteArray.empty, fun w a cap _ => ?_⟩
    rw [run_convert_bytes_string w 24 9 5 a 0 cap Ybad.underlying24 Ybad.underlying5 Ybad.underlying9]
    cases a with
    | none => simp [Conv.bytesToString]
    | some x =>
      rw [run_bytesToString w x 0 cap [] (by simp [loadCells, loadCellsFrom])]
      rfl
  · refine ⟨strOfNums ((List.range n).map Z), fun w a cap hB => ?_⟩
    rcases hB with h | ⟨b, off, rfl, _, hc⟩
    · exact absurd h h0
    · exact run_convert_bytes_arg (P := Ybad.prog) w 24 5 Ybad.underlying24 Ybad.underlying5 b off n cap _ (by simp) (fun i hi => by rw [(hc i hi).1]; simp [hi]) 9 Ybad.underlying9

set_option maxHeartbeats 400000 in
theorem equal_same (a a' : Option Addr) (n cap cap' : Nat) (Z : Nat → Int) (w : World) (h : Bytes w a n Z) (h' : Bytes w a' n Z) :
    Calls Ybad.prog 7 #[.slice a n cap, .slice a' n cap'] w fun e w' => e = .returned (.bool true) ∧ w = w' := by
  obtain ⟨s, hs⟩ := conv_bytes n Z
  have e1 := hs w a cap h
  have e2 := hs w a' cap' h'
  clear hs h h'
  go_enter Ybad.func7, Ybad.ntmps7
  go_wp2
  go_ret
  exact ⟨rfl, rfl⟩

set_option maxHeartbeats 400000 in
/-- fail, where no error came first. -/
theorem fail_set (d : Nat) (T : TypeId) (x : Value) (w : World) (h2 : w.cell? ⟨d, 2, none⟩ = some .nilIface) (f2 : w.frozen? ⟨d, 2, none⟩ = false) (hg : w.cell? ⟨1, 0, none⟩ = some (.iface T x)) :
    Calls Ybad.prog 8 #[.pointer (some ⟨d, 0, none⟩)] w fun e w' => e = .returned (.tuple #[]) ∧ w.setCell ⟨d, 2, none⟩ (.iface T x) = w' := by
  go_enter Ybad.func8, Ybad.ntmps8
  go_wp2
  go_end0
  exact ⟨rfl, rfl⟩

set_option maxHeartbeats 400000 in
/-- fail, where an error came first. -/
theorem fail_keep (d : Nat) (T : TypeId) (x : Value) (w : World) (h2 : w.cell? ⟨d, 2, none⟩ = some (.iface T x)) :
    Calls Ybad.prog 8 #[.pointer (some ⟨d, 0, none⟩)] w fun e w' => e = .returned (.tuple #[]) ∧ w = w' := by
  go_enter Ybad.func8, Ybad.ntmps8
  go_wp2
  go_end0
  exact ⟨rfl, rfl⟩

theorem cells_two (w : World) (x y : Value) (t : TypeId) : ∀ j u, [x, y][j]? = some u → (w.alloc (.cells #[x, y] t)).cell? ((⟨w.heap.size, 0, none⟩ : Addr).add j) = some u := by
  intro j u hj
  match j, hj with
  | 0, hj => simp at hj; subst hj; simp [Addr.add]
  | 1, hj => simp at hj; subst hj; simp [Addr.add]

theorem one_ints (l : List Int) : ∀ u ∈ l.map (Value.int .u8), u.oneCell' = true := by
  intro u hu
  obtain ⟨n, _, rfl⟩ := List.mem_map.1 hu
  rfl

theorem Ybad.info5 : (Ybad.prog.info? 5).map (fun i => (i.zero, i.size, i.bytes)) = some (some (.int .u8 0), 1, 1) := by kernel_rfl

set_option maxHeartbeats 400000 in
theorem put16_any (g k cap : Nat) (xs : List Value) (x : Int) (base : Nat) (w : World) (hx : 0 ≤ x ∧ x ≤ 65535) (hk : k + 2 ≤ cap) (hown : w.ownsRow base 5 1 (.slice (some ⟨g, 0, none⟩) k cap) k xs) :
    Calls Ybad.prog 4 #[.slice (some ⟨g, 0, none⟩) k cap, .int .u16 x] w fun e w' => e = .returned (.slice (some ⟨g, 0, none⟩) (k + 2) cap) ∧ w'.ownsRow base 5 1 (.slice (some ⟨g, 0, none⟩) (k + 2) cap) (k + 2) (xs ++ [.int .u8 (x / 256), .int .u8 (x % 256)]) ∧ w.grownBy w' (some g) := by
  obtain ⟨i0, hi, hz0, hz1, hz2⟩ := info_parts Ybad.info5
  go_enter Ybad.func4, Ybad.ntmps4
  go_wp2_with (at_builtin; refine wpList_append_fits _ rfl (.tmp 5) (.tmp 11) 24 rfl base 5 i0 1 Ybad.underlying24 hi hz1 g k cap xs rfl (hown.alloc _) ⟨w.heap.size, 0, none⟩ 2 2 [.int .u8 (x / 256), .int .u8 (x % 256)] rfl rfl (cells_two w _ _ 5) (one_ints [x / 256, x % 256]) hk ?_; intro w1 hown1 hgrow1)
  go_ret
  exact ⟨rfl, hown1, (World.grownBy_alloc w _ _).trans hgrow1⟩
end Go.Proofs.YbulkanrqDoor
