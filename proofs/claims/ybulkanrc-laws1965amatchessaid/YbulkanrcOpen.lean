/-
  AN ARGUMENT []ZzS1965AEntry, OPENED.
-/
import Derived.Test.YbulkanrcBig
import Derived.ProofKit
import Derived.OpenShut
import Derived.Deep.SlicePairs
namespace Go.Proofs.Ybulkanrc
open Go.ChangeShapes Go.WideShapes Go.ChangeAt Go.RowKit Go.Deep

theorem bytes_of {H : Type} {enc : TypeId × Value → H} {W : World} {fuel : Nat} {cs : List Value} {x : DataW H × List MemPlace} (hf : DataW.trod enc Yba.prog W 0 (fun _ => true) true fuel 28 cs = some x) :
    ∃ a l c Z, cs = [.slice a l c] ∧ Bytes W a l Z := by
  rcases open_ints Yba.underlying28 Yba.underlying5 (by kernel_rfl) hf with ⟨hcs, _⟩ | ⟨y, l, c, zs, hcs, _, hl, hm, hz, _, hcell, hwz⟩
  · exact ⟨none, 0, 0, fun _ => 0, hcs, .inl rfl⟩
  · refine ⟨some y, l, c, fun i => zs.getD i 0, hcs, ?_⟩
    have hz' : zs.length = c := by simpa using hz
    by_cases h0 : l = 0
    · exact .inl h0
    · obtain ⟨b, off, rfl, hq⟩ := ints_at hcell (by omega)
      exact .inr ⟨b, off, rfl, block_lt_of_cell (hq 0 (by omega)), fun i hi => ⟨hq i (by omega), by simpa using range_u8 hwz i⟩⟩

theorem entries_of {H : Type} {enc : TypeId × Value → H} {W : World} {fuel : Nat} {a : Option Addr} {len cap : Nat} {x : DataW H × List MemPlace} (hf : DataW.trod enc Yba.prog W 0 (fun _ => true) true fuel 22 [.slice a len cap] = some x) :
    ∃ N A L C Z, Entries W a len N A L C Z ∧ len ≤ 9223372036854775807 := by
  rcases open_slice_pairs Yba.underlying22 Yba.underlying30 (by kernel_rfl) rfl rfl (by kernel_rfl) (by kernel_rfl) hf with ⟨hcs, _⟩ | ⟨y, l, c, m, n, V0, V1, D0, D1, P0, P1, hcs, _, hl, hm, hmm, _, hx⟩
  · simp at hcs
    obtain ⟨rfl, rfl, rfl⟩ := hcs
    exact ⟨fun _ => 0, fun _ => none, fun _ => 0, fun _ => 0, fun _ _ => 0, .inl rfl, by omega⟩
  · simp at hcs
    obtain ⟨rfl, rfl, rfl⟩ := hcs
    have hlm : len ≤ m := by rw [hmm]; simpa using hl
    unfold maxLen at hm
    have each : ∀ i, i < len → ∃ q : Int × Option Addr × Nat × Nat × (Nat → Int), W.cell? (y.add (i * 2)) = some (.int .u8 q.1) ∧ W.cell? (y.add (i * 2 + 1)) = some (.slice q.2.1 q.2.2.1 q.2.2.2.1) ∧ (0 ≤ q.1 ∧ q.1 ≤ 255) ∧ Bytes W q.2.1 q.2.2.1 q.2.2.2.2 := by
      intro i hi
      obtain ⟨c0, c1, t0, t1⟩ := hx i (by omega)
      obtain ⟨z, e0, _, wz⟩ := DataW.trod_int Yba.underlying5 t0
      obtain ⟨a', l', c', Z, e1, hB⟩ := bytes_of t1
      simp at e0 e1
      rw [e0] at c0
      rw [e1] at c1
      exact ⟨(z, a', l', c', Z), c0, c1, bounds_u8 wz, hB⟩
    obtain ⟨q, hq⟩ := choose_lt each
    refine ⟨fun i => (q i).1, fun i => (q i).2.1, fun i => (q i).2.2.1, fun i => (q i).2.2.2.1, fun i => (q i).2.2.2.2, ?_, by omega⟩
    by_cases h0 : len = 0
    · exact .inl h0
    · obtain ⟨b, off, spot⟩ := y
      have hspot : spot = none := by simpa [Addr.add] using World.cell?_spot (hq 0 (by omega)).1
      subst hspot
      have hb : b < W.heap.size := by have := block_lt_of_cell (hq 0 (by omega)).1; simpa [Addr.add] using this
      refine .inr ⟨b, off, rfl, hb, fun i hi => ?_⟩
      obtain ⟨h1, h2, h3, h4⟩ := hq i hi
      rw [add_plain] at h1 h2
      exact ⟨h1, by rw [Nat.add_assoc]; exact h2, h3, h4⟩
end Go.Proofs.Ybulkanrc
