/-
  THE WALK of zzs1963acheck: it answers true.
-/
import Derived.Test.YbulkanqaModel
namespace Go.Proofs.Ybulkanqa
open Go.RowKit Plain

/-- Two blocks of the call's own. -/
theorem below_two (w : World) (o o' : Obj) : Below w.heap.size w ((w.alloc o).alloc o') :=
  ((Below.refl _ _).alloc (Nat.le_refl _) _).alloc (by simp) _

set_option maxHeartbeats 400000 in
theorem parse_short (a : Option Addr) (len cap : Nat) (s : ByteArray) (w : World) (hs : s.size ≠ len) :
    Calls Yba.prog 7 #[.slice a len cap, .string s] w fun e w' => e = .returned (.tuple #[.agg (six 0 0 0 0 0 0), .bool false]) ∧ Below w.heap.size w w' := by
  have hs1 : ((len : Int) != (s.size : Int)) = true := by simp; omega
  clear hs
  go_enter Yba.func7, Yba.ntmps7
  go_wp2
  exact bodyPost_ret (v := .tuple #[.agg (six 0 0 0 0 0 0), .bool false]) (by simp [results, Yba.results7, go_sem]) rfl ⟨rfl, below_two _ _ _⟩

set_option maxHeartbeats 400000 in
theorem parse_none (a : Option Addr) (cap : Nat) (s : ByteArray) (w : World) (hs : s.size = 0) :
    Calls Yba.prog 7 #[.slice a 0 cap, .string s] w fun e w' => e = .returned (.tuple #[.agg (six 0 0 0 0 0 0), .bool true]) ∧ Below w.heap.size w w' := by
  go_enter Yba.func7, Yba.ntmps7
  go_wp2
  refine wp_loop_rounds 1 ?_
  rw [rounds_succ]
  go_wp2
  exact bodyPost_ret (v := .tuple #[.agg (six 0 0 0 0 0 0), .bool true]) (by simp [results, Yba.results7, go_sem]) rfl ⟨rfl, below_two _ _ _⟩

set_option maxHeartbeats 400000 in
theorem model_short (a : Option Addr) (len cap : Nat) (s : ByteArray) (w : World) (hs : s.size ≠ len) :
    Calls Yba.prog 8 #[.slice a len cap, .string s] w fun e w' => e = .returned (.tuple #[.agg (six 0 0 0 0 0 0), .bool false]) ∧ Below w.heap.size w w' := by
  have hs1 : ((len : Int) != (s.size : Int)) = true := by simp; omega
  clear hs
  go_enter Yba.func8, Yba.ntmps8
  go_wp2
  exact bodyPost_ret (v := .tuple #[.agg (six 0 0 0 0 0 0), .bool false]) (by simp [results, Yba.results8, go_sem]) rfl ⟨rfl, below_two _ _ _⟩

set_option maxHeartbeats 400000 in
theorem model_none (a : Option Addr) (cap : Nat) (s : ByteArray) (w : World) (hs : s.size = 0) :
    Calls Yba.prog 8 #[.slice a 0 cap, .string s] w fun e w' => e = .returned (.tuple #[.agg (six 0 0 0 0 0 0), .bool true]) ∧ Below w.heap.size w w' := by
  go_enter Yba.func8, Yba.ntmps8
  go_wp2
  refine wp_loop_rounds 1 ?_
  rw [rounds_succ]
  go_wp2
  exact bodyPost_ret (v := .tuple #[.agg (six 0 0 0 0 0 0), .bool true]) (by simp [results, Yba.results8, go_sem]) rfl ⟨rfl, below_two _ _ _⟩

/-- What the check needs of a slice of bytes: empty, or its cells lie there. -/
def Bytes (w : World) (a : Option Addr) (len : Nat) (c : Nat → Int) : Prop :=
  len = 0 ∨ ∃ b off, a = some ⟨b, off, none⟩ ∧ b < w.heap.size ∧ (∀ i, i < len → w.cell? ⟨b, off + i, none⟩ = some (.int .u8 (c i))) ∧ ∀ i, i < len → 0 ≤ c i ∧ c i ≤ 255

theorem Bytes.later {w w1 : World} {a : Option Addr} {len : Nat} {c : Nat → Int} (h : Bytes w a len c) (hb : Below w.heap.size w w1) : Bytes w1 a len c := by
  rcases h with h | ⟨b, off, rfl, h1, h2, h3⟩
  · exact .inl h
  · exact .inr ⟨b, off, rfl, Nat.lt_of_lt_of_le h1 hb.size, fun i hi => (hb.cell (p := ⟨b, off + i, none⟩) h1).trans (h2 i hi), h3⟩

/-- One answer for both. -/
theorem both (len : Nat) (s : ByteArray) (c : Nat → Int) (hm : len ≤ 1024) :
    ∃ r0 r1 r2 r3 r4 r5 : Int, ∃ ok : Bool, ∀ (a : Option Addr) (cap : Nat) (w : World), Bytes w a len c →
      (Calls Yba.prog 7 #[.slice a len cap, .string s] w fun e w' => e = .returned (.tuple #[.agg (six r0 r1 r2 r3 r4 r5), .bool ok]) ∧ Below w.heap.size w w') ∧
      (Calls Yba.prog 8 #[.slice a len cap, .string s] w fun e w' => e = .returned (.tuple #[.agg (six r0 r1 r2 r3 r4 r5), .bool ok]) ∧ Below w.heap.size w w') := by
  by_cases hs : s.size = len
  · by_cases h0 : len = 0
    · subst h0
      exact ⟨0, 0, 0, 0, 0, 0, true, fun a cap w _ => ⟨parse_none a cap s w hs, model_none a cap s w hs⟩⟩
    · let l : Nat → Int := fun i => if h : i < s.size then ((s[i]'h).toNat : Int) else 0
      have hl : ∀ i (h : i < s.size), ((s[i]'h).toNat : Int) = l i := fun i h => by simp only [l, dif_pos h]
      obtain ⟨⟨⟨r0, r1, r2, r3, r4, r5⟩, ok⟩, hR⟩ : ∃ R, run wrap64 c l len 0 (0, 0, 0, 0, 0, 0) = R := ⟨_, rfl⟩
      refine ⟨r0, r1, r2, r3, r4, r5, ok, fun a cap w hB => ?_⟩
      rcases hB with h | ⟨b, off, rfl, hb, hc, hcb⟩
      · exact absurd h h0
      · exact ⟨parse_run b off len cap s c l w hb hs hm hc hcb hl r0 r1 r2 r3 r4 r5 ok hR, model_run b off len cap s c l w hb hs hm hc hcb hl r0 r1 r2 r3 r4 r5 ok hR⟩
  · exact ⟨0, 0, 0, 0, 0, 0, false, fun a cap w _ => ⟨parse_short a len cap s w hs, model_short a len cap s w hs⟩⟩

set_option maxHeartbeats 1000000 in
theorem check_any (a : Option Addr) (len cap : Nat) (s : ByteArray) (c : Nat → Int) (w : World) (hB : Bytes w a len c) (hm : len ≤ 1024) :
    Calls Yba.prog 6 #[.slice a len cap, .string s] w fun e w' => e = .returned (.bool true) ∧ Below w.heap.size w w' := by
  obtain ⟨r0, r1, r2, r3, r4, r5, ok, hboth⟩ := both len s c hm
  have HB := hid hboth
  have HBy := hid hB
  clear hboth hB
  go_enter Yba.func6, Yba.ntmps6
  go_wp2_with fail
  refine (HB.out a cap _ HBy.out).1.mono ?_
  rintro e w1 ⟨rfl, hb1⟩
  have HB1 := hid hb1
  have hz1 := hb1.size
  clear hb1
  go_wp2_with fail
  refine (HB.out a cap _ (HBy.out.later (HB1.out.alloc hz1 _))).2.mono ?_
  rintro e w2 ⟨rfl, hb2⟩
  have hc0 : ∀ o, w2.cell? ⟨w1.heap.size, o, none⟩ = (w1.alloc (.cells (six r0 r1 r2 r3 r4 r5) 28)).cell? ⟨w1.heap.size, o, none⟩ := fun o => hb2.cell (p := ⟨w1.heap.size, o, none⟩) (by simp)
  have c0 : w2.cell? ⟨w1.heap.size, 0, none⟩ = some (.int .i64 r0) := by rw [hc0]; simp
  have c1 : w2.cell? ⟨w1.heap.size, 1, none⟩ = some (.int .i64 r1) := by rw [hc0]; simp
  have c2 : w2.cell? ⟨w1.heap.size, 2, none⟩ = some (.int .i64 r2) := by rw [hc0]; simp
  have c3 : w2.cell? ⟨w1.heap.size, 3, none⟩ = some (.int .i64 r3) := by rw [hc0]; simp
  have c4 : w2.cell? ⟨w1.heap.size, 4, none⟩ = some (.int .i64 r4) := by rw [hc0]; simp
  have c5 : w2.cell? ⟨w1.heap.size, 5, none⟩ = some (.int .i64 r5) := by rw [hc0]; simp
  have hz2 : w1.heap.size < w2.heap.size := by have := hb2.size; simp at this; omega
  have HB2 := hid hb2
  clear hb2 hc0
  have fin : ∀ o, Below w.heap.size w (w2.alloc o) := fun o => ((HB1.out.alloc hz1 _).trans (HB2.out.mono (by simp; omega))).alloc (by omega) o
  have FIN := hid fin
  clear fin
  cases ok
  · go_wp2
    go_ret
    exact ⟨rfl, FIN.out _⟩
  · go_wp2
    go_ret
    exact ⟨rfl, FIN.out _⟩
end Go.Proofs.Ybulkanqa
