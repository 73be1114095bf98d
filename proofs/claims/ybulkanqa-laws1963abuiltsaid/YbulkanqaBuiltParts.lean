/-
  FOR THE WALK of LawS1963ABuilt: a block of bytes, and what becomes of it.
-/
import Derived.Test.YbulkanqaCheck
import Derived.Deep.OwnRows
import Derived.Laws.BytesArg
namespace Go.Proofs.Ybulkanqa
open Go.RowKit Plain

theorem Yba.info5 : (Yba.prog.info? 5).map (fun i => (i.zero, i.size, i.bytes)) = some (some (.int .u8 0), 1, 1) := by kernel_rfl

/-- n cells, each a byte. -/
def Okb (C : Array Value) (n : Nat) : Prop := C.size = n ∧ ∀ i, i < n → ∃ z : Int, C[i]? = some (.int .u8 z) ∧ 0 ≤ z ∧ z ≤ 255

theorem Okb.made (n : Nat) : Okb (madeCells #[.int .u8 0] n) n := by
  refine ⟨size_madeCells _ _, fun i hi => ⟨0, ?_, by omega, by omega⟩⟩
  simp [madeCells, hi, Nat.mod_one]

theorem Okb.set {C : Array Value} {n : Nat} (h : Okb C n) (k : Nat) {z : Int} (h0 : 0 ≤ z) (h1 : z ≤ 255) : Okb (C.setIfInBounds k (.int .u8 z)) n := by
  refine ⟨by simp [h.1], fun i hi => ?_⟩
  rw [Array.getElem?_setIfInBounds]
  by_cases e : k = i
  · subst e; exact ⟨z, by simp [h.1, hi], h0, h1⟩
  · rw [if_neg e]; exact h.2 i hi

/-- The block as the heap's last one: what the check asks. -/
theorem Okb.bytes {C : Array Value} {n : Nat} (h : Okb C n) (w : World) {m : Nat} (hm : m ≤ n) : Bytes (w.alloc (.cells C 5)) (some ⟨w.heap.size, 0, none⟩) m (fun i => intOf (C.getD i undef)) := by
  have hi : ∀ i, i < m → ∃ z : Int, C[i]? = some (.int .u8 z) ∧ C.getD i undef = .int .u8 z ∧ 0 ≤ z ∧ z ≤ 255 := fun i hi => by
    obtain ⟨z, hz, h0, h1⟩ := h.2 i (by omega)
    refine ⟨z, hz, ?_, h0, h1⟩
    rw [Array.getD_eq_getD_getElem?, hz]; rfl
  refine .inr ⟨w.heap.size, 0, rfl, by simp, fun i h => ?_, fun i h => ?_⟩
  · obtain ⟨z, hz, hg, -, -⟩ := hi i h
    simp [hz, hg, intOf]
  · obtain ⟨z, hz, hg, h0, h1⟩ := hi i h
    simp only [hg, intOf]; exact ⟨h0, h1⟩

/-- 'string(lb)': some string. -/
theorem Okb.str {C : Array Value} {n : Nat} (h : Okb C n) (w : World) : ∃ s : ByteArray, (convert 22 9 (.slice (some ⟨w.heap.size, 0, none⟩) n n)).run Yba.prog (w.alloc (.cells C 5)) = .ok (.string s) (w.alloc (.cells C 5)) := by
  refine ⟨_, run_convert_bytes_arg (P := Yba.prog) (w.alloc (.cells C 5)) 22 5 Yba.underlying22 Yba.underlying5 w.heap.size 0 n n (C.toList.map intOf) (by simp [h.1]) (fun i hi => ?_) 9 Yba.underlying9⟩
  obtain ⟨z, hz, -, -⟩ := h.2 i hi
  simp [hz, intOf]

theorem byte_range (s : ByteArray) (i : Nat) (h : i < s.size) : 0 ≤ ((s[i]'h).toNat : Int) ∧ ((s[i]'h).toNat : Int) ≤ 255 := by
  have := (s[i]'h).toNat_lt
  omega

theorem check_built (w : World) (C D : Array Value) (n m cap : Nat) (s : ByteArray) (hD : Okb D n) (hm : m ≤ n) (hn : n ≤ 1024) :
    Calls Yba.prog 6 #[.slice (some ⟨w.heap.size + 1, 0, none⟩) m cap, .string s] ((w.alloc (.cells C 5)).alloc (.cells D 5)) fun e w' => e = .returned (.bool true) ∧ Below w.heap.size w w' := by
  have hB := hD.bytes (w.alloc (.cells C 5)) hm
  simp only [World.size_alloc] at hB
  refine (check_any _ m cap s _ _ hB (by omega)).mono fun e w' ⟨he, hb⟩ => ⟨he, ?_⟩
  exact (below_two w _ _).trans (hb.mono (by simp; omega))

theorem check_built_drew (w : World) (C D : Array Value) (n m cap : Nat) (s : ByteArray) (hD : Okb D n) (hm : m ≤ n) (hn : n ≤ 1024) :
    Calls Yba.prog 6 #[.slice (some ⟨w.heap.size + 1, 0, none⟩) m cap, .string s] ((w.alloc (.cells C 5)).alloc (.cells D 5)).drew fun e w' => e = .returned (.bool true) ∧ Below w.heap.size w w' := by
  have hB := hD.bytes (w.alloc (.cells C 5)) hm
  simp only [World.size_alloc] at hB
  refine (check_any _ m cap s _ _ (hB.later (Below.refl _ _).drew) (by omega)).mono fun e w' ⟨he, hb⟩ => ⟨he, ?_⟩
  exact ((below_two w _ _).drew).trans (hb.mono (by simp; omega))
end Go.Proofs.Ybulkanqa
