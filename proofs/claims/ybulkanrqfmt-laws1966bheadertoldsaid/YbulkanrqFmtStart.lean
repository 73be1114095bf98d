/-
  THE WALK of (*Walker).start, at a message of twelve octets or more.
-/
import Derived.Test.YbulkanrqFmtFill
namespace Go.Proofs.YbulkanrqFmt
open Go.RowKit

theorem sl (g : Nat) (o : Nat) (v : Int) (hv : v = (o : Int)) (ho : o < 12) (w : World) : (Instr.sliceAt 30 (.pointer (some ⟨g, 0, none⟩)) (some (.int .i64 v)) none none).run Ybaf.prog w = .ok (.slice (some ⟨g, o, none⟩) (12 - o) (12 - o)) w := by
  subst hv
  have hl : Ybaf.prog.arrayLen 30 = 12 := by kernel_rfl
  have he : Ybaf.prog.elem 30 = 5 := by kernel_rfl
  have hs : (sizeOf 5).run Ybaf.prog w = .ok 1 w := by
    simp [sizeOf]
    rfl
  rw [run_sliceAt_array_l (P := Ybaf.prog) w 30 ⟨g, 0, none⟩ (by rw [hl, he]; exact Ybaf.underlying30) .i64 o (by omega) (by rw [hl]; omega), he, hs]
  have : ¬ 12 = o := by omega
  simp [hl, slicedAt, this, Addr.add]
  omega

theorem wrap_off (k : Nat) (hk : k < 4) : IntKind.i64.wrap (4 + IntKind.i64.wrap (2 * (k : Int))) = ((4 + 2 * k : Nat) : Int) := by
  rw [IntKind.wrap_i64, IntKind.wrap_i64]
  omega
theorem wrap_sum {c : Nat → Int} {k : Nat} (t1 : 0 ≤ two c (4 + 2 * k) ∧ two c (4 + 2 * k) < 65536) (t2 : 0 ≤ sums c k ∧ sums c k ≤ 65535 * k) (hlt : k < 4) : IntKind.i64.wrap (sums c k + IntKind.i64.wrap (two c (4 + 2 * k))) = sums c (k + 1) := by
  rw [IntKind.wrap_i64, IntKind.wrap_i64]
  simp only [sums]
  omega
theorem sl_at (g k : Nat) (hk : k < 4) (w : World) : (Instr.sliceAt 30 (.pointer (some ⟨g, 0, none⟩)) (some (.int .i64 (IntKind.i64.wrap (4 + IntKind.i64.wrap (2 * (k : Int)))))) none none).run Ybaf.prog w = .ok (.slice (some ⟨g, 4 + 2 * k, none⟩) (12 - (4 + 2 * k)) (12 - (4 + 2 * k))) w :=
  sl g (4 + 2 * k) _ (wrap_off k hk) (by omega) w

set_option maxRecDepth 100000
set_option maxHeartbeats 4000000 in
theorem start_ok (X : World) (g n cap : Nat) (c : Nat → Int) (b : Nat) (Z : Nat → Value) (h12 : 12 ≤ n) (hN : n < 100000) (hg : g < b) (hX : b < X.heap.size)
    (hc : ∀ i, i < 12 → X.cell? ⟨g, i, none⟩ = some (.int .u8 (c i))) (hb : ∀ i, i < 12 → 0 ≤ c i ∧ c i ≤ 255) (hz : ∀ i, i < 87 → X.cell? ⟨b, i, none⟩ = some (Z i)) (hf : ∀ i, X.frozen? ⟨b, i, none⟩ = false) :
    Calls Ybaf.prog 10 #[.pointer (some ⟨b, 0, none⟩), .slice (some ⟨g, 0, none⟩) n cap] X fun e w' => e = .returned .nilIface ∧ Filled X w' b (fun i => if i = 10 then .int .i64 12 else if i = 4 then .slice (some ⟨g, 0, none⟩) n cap else cellsW c Z 4 i) := by
  have HC := hid hc
  have HB := hid hb
  have HZ := hid hz
  have HF := hid hf
  clear hc hb hz hf
  have q0 := HC.out 0 (by omega)
  have r0 := HB.out 0 (by omega)
  have q1 := HC.out 1 (by omega)
  have r1 := HB.out 1 (by omega)
  have q2 := HC.out 2 (by omega)
  have r2 := HB.out 2 (by omega)
  have q3 := HC.out 3 (by omega)
  have r3 := HB.out 3 (by omega)
  have s0 := HZ.out 0 (by omega)
  have f0 := HF.out 0
  have s1 := HZ.out 1 (by omega)
  have f1 := HF.out 1
  have s2 := HZ.out 2 (by omega)
  have f2 := HF.out 2
  have s3 := HZ.out 3 (by omega)
  have f3 := HF.out 3
  have ha : ∀ w, (Instr.arrayAt 30 (.slice (some ⟨g, 0, none⟩) n cap)).run Ybaf.prog w = .ok (.pointer (some ⟨g, 0, none⟩)) w := fun w => run_arrayAt w 30 5 12 _ _ _ Ybaf.underlying30 (by omega)
  go_enter Ybaf.func10, Ybaf.ntmps10
  go_wp2
  go_region_held3 (fun w' => Below b X w') (repeat (first | with_reducible assumption | with_reducible exact Below.refl _ _ | with_reducible apply Below.drew | with_reducible refine Below.alloc ?_ (by first | omega | (simp <;> omega)) _ | with_reducible refine Below.setCell ?_ (by first | omega | simp) _))
    (first
      | (go_at_call 16; refine (u16_is g 2 10 10 _ _ (two c 2) rfl _ (by omega) (cell_of (by assumption) hg q2) (cell_of (by assumption) hg q3) r2 r3).mono ?_; rintro e w' ⟨rfl, rfl⟩))
  go_wp2
  go_region_held3 (fun w' => Below b X w') (repeat (first | with_reducible assumption | with_reducible exact Below.refl _ _ | with_reducible apply Below.drew | with_reducible refine Below.alloc ?_ (by first | omega | (simp <;> omega)) _ | with_reducible refine Below.setCell ?_ (by first | omega | simp) _))
    (first
      | (go_at_call 16; refine (u16_is g 0 12 12 _ _ (two c 0) rfl _ (by omega) (cell_of (by assumption) hg q0) (cell_of (by assumption) hg q1) r0 r1).mono ?_; rintro e w' ⟨rfl, rfl⟩))
  go_wp2
  clear q0 q1 q2 q3 r0 r1 r2 r3 s0 s1 s2 s3 f0 f1 f2 f3 ha
  go_loopw [7, 39] (fun e i wr => ∃ k : Nat, k ≤ 4 ∧ i = .int .i64 k ∧ e = .int .i64 (sums c k) ∧ Filled X wr b (cellsW c Z k)) (fun _ i _ => 4 - (intOf i).toNat)
  case atStart =>
    exact ⟨0, by omega, rfl, rfl, ((((((filled_start (two_range HB.out (by omega)) ⟨Below.refl _ _, hX, HF.out, HZ.out⟩).alloc _).alloc _).drew).drew).drew).drew⟩
  case round =>
    obtain ⟨k, hk, rfl, rfl, hW⟩ := hrel
    have HW := hid hW
    clear hW
    have hb0 : b < wr.heap.size := HW.out.size
    by_cases hlt : k < 4
    · have qa := HC.out (4 + 2 * k) (by omega)
      have ra := HB.out (4 + 2 * k) (by omega)
      have qb := HC.out (4 + 2 * k + 1) (by omega)
      have rb := HB.out (4 + 2 * k + 1) (by omega)
      have f5 := HW.out.free (5 + k)
      have s5 := HW.out.cell (5 + k) (by omega)
      have t1 := two_range HB.out (i := 4 + 2 * k) (by omega)
      have t2 := sums_range HB.out k hk
      have hw := HW.out.below
      have hs : ∀ w, (Instr.sliceAt 30 (.pointer (some ⟨g, 0, none⟩)) (some (.int .i64 (IntKind.i64.wrap (4 + IntKind.i64.wrap (2 * (k : Int)))))) none none).run Ybaf.prog w = .ok (.slice (some ⟨g, 4 + 2 * k, none⟩) (12 - (4 + 2 * k)) (12 - (4 + 2 * k))) w := fun w => sl_at g k hlt w
      go_wp2
      go_region_held3 (fun w' => Below b X w') (repeat (first | with_reducible assumption | with_reducible exact Below.refl _ _ | with_reducible apply Below.drew | with_reducible refine Below.alloc ?_ (by first | omega | (simp <;> omega)) _ | with_reducible refine Below.setCell ?_ (by first | omega | simp) _))
        (first
          | (go_at_call 16; refine (u16_is g (4 + 2 * k) _ _ _ _ (two c (4 + 2 * k)) rfl _ (by omega) (cell_of (by assumption) hg qa) (cell_of (by assumption) hg qb) ra rb).mono ?_; rintro e w' ⟨rfl, rfl⟩))
      clear hs qa qb ra rb hw
      set_option maxHeartbeats 60000 in
      go_wp2
      have hsum : IntKind.i64.wrap (sums c k + IntKind.i64.wrap (two c (4 + 2 * k))) = sums c (k + 1) := wrap_sum t1 t2 hlt
      refine ⟨⟨k + 1, by omega, by go_num, by rw [hsum], (((filled_sum HW.out).alloc _).drew).drew⟩, ?_⟩
      simp [intOf]
      omega
    · obtain rfl : k = 4 := by omega
      have f4 := HW.out.free 4
      have s4 := HW.out.cell 4 (by omega)
      have f10 := HW.out.free 10
      have s10 := HW.out.cell 10 (by omega)
      go_wp2
      go_ret
      exact ⟨rfl, (HW.out.put 4 _).put 10 _⟩
end Go.Proofs.YbulkanrqFmt
