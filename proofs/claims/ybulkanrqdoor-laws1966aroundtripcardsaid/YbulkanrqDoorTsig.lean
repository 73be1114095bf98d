/-
  THE WALK of (*decoder).tsigData.
-/
import Derived.Test.YbulkanrqDoorLeaf
import Derived.Deep.RegionHeld3
import Derived.Laws.Cover3
namespace Go.Proofs.YbulkanrqDoor
open Go.RowKit

/-- The world in which tsigData is called: two blocks on X. -/
abbrev two (X : World) (d t : Array Value) : World := (X.alloc (.cells d 32)).alloc (.cells t 36)

theorem cell_of {B : Nat} {X W : World} (h : Below B X W) {g i : Nat} {v : Value} (hg : g < B) (hc : X.cell? ⟨g, i, none⟩ = some v) : W.cell? ⟨g, i, none⟩ = some v := (h.cell (p := ⟨g, i, none⟩) hg).trans hc

theorem u16_is (g o n cap : Nat) (c0 c1 v : Int) (hv : c0 * 256 + c1 = v) (w : World) (hn : 2 ≤ n) (h0 : w.cell? ⟨g, o, none⟩ = some (.int .u8 c0)) (h1 : w.cell? ⟨g, o + 1, none⟩ = some (.int .u8 c1))
    (b0 : 0 ≤ c0 ∧ c0 ≤ 255) (b1 : 0 ≤ c1 ∧ c1 ≤ 255) :
    Calls Ybad.prog 9 #[.agg #[], .slice (some ⟨g, o, none⟩) n cap] w fun e w' => e = .returned (.int .u16 v) ∧ w' = (w.alloc (.cells #[] 46)).drew := by
  subst hv; exact u16_any g o n cap c0 c1 w hn h0 h1 b0 b1
theorem u32_is (g o n cap : Nat) (c0 c1 c2 c3 v : Int) (hv : c0 * 16777216 + c1 * 65536 + c2 * 256 + c3 = v) (w : World) (hn : 4 ≤ n) (h0 : w.cell? ⟨g, o, none⟩ = some (.int .u8 c0)) (h1 : w.cell? ⟨g, o + 1, none⟩ = some (.int .u8 c1)) (h2 : w.cell? ⟨g, o + 2, none⟩ = some (.int .u8 c2)) (h3 : w.cell? ⟨g, o + 3, none⟩ = some (.int .u8 c3))
    (b0 : 0 ≤ c0 ∧ c0 ≤ 255) (b1 : 0 ≤ c1 ∧ c1 ≤ 255) (b2 : 0 ≤ c2 ∧ c2 ≤ 255) (b3 : 0 ≤ c3 ∧ c3 ≤ 255) :
    Calls Ybad.prog 10 #[.agg #[], .slice (some ⟨g, o, none⟩) n cap] w fun e w' => e = .returned (.int .u32 v) ∧ w' = (w.alloc (.cells #[] 46)).drew := by
  subst hv; exact u32_any g o n cap c0 c1 c2 c3 w hn h0 h1 h2 h3 b0 b1 b2 b3

set_option maxHeartbeats 1000000 in
/-- An error came first: nothing is done. -/
theorem tsig_pre (X : World) (a : Option Addr) (n c : Nat) (p : Int) (T : TypeId) (x : Value) (u : Value) (t : Array Value) :
    Calls Ybad.prog 6 #[.pointer (some ⟨X.heap.size, 0, none⟩), .pointer (some ⟨X.heap.size + 1, 0, none⟩)] (two X #[.slice a n c, .int .i64 p, .iface T x, u] t) fun e w' => e = .returned (.tuple #[]) ∧
      w'.cell? ⟨X.heap.size, 1, none⟩ = some (.int .i64 p) ∧ w'.cell? ⟨X.heap.size, 2, none⟩ = some (.iface T x) ∧ Below X.heap.size X w' := by
  go_enter Ybad.func6, Ybad.ntmps6
  go_wp2
  go_region
  go_wp2_with (go_at_call 8; refine (fail_keep _ T x _ (by simp)).mono ?_; rintro e w' ⟨rfl, rfl⟩)
  refine bodyPost_ret (results_none rfl _ _ _) rfl ?_
  exact ⟨rfl, by simp, by simp, (((Below.refl _ _).alloc (Nat.le_refl _) _).alloc (by simp) _).drew⟩

/-- The decoder's cells, in a world that has grown on. -/
theorem d_cells {X W : World} {m o e u : Value} (h : Below (X.heap.size + 1) (X.alloc (.cells #[m, o, e, u] 32)) W) : W.cell? ⟨X.heap.size, 1, none⟩ = some o ∧ W.cell? ⟨X.heap.size, 2, none⟩ = some e :=
  ⟨cell_of h (Nat.lt_succ_self _) (by simp), cell_of h (Nat.lt_succ_self _) (by simp)⟩
theorem d_free {X W : World} {m o e u : Value} (h : Below (X.heap.size + 1) (X.alloc (.cells #[m, o, e, u] 32)) W) : W.frozen? ⟨X.heap.size, 2, none⟩ = false :=
  (h.frozen (p := ⟨X.heap.size, 2, none⟩) (Nat.lt_succ_self _)).trans (by simp)
theorem some_int {W : World} {a : Addr} {k : IntKind} {x y : Int} (h : W.cell? a = some (.int k x)) (e : x = y) : W.cell? a = some (.int k y) := by rw [h, e]
theorem some_slice {W : World} {a : Addr} {b : Option Addr} {x y c : Nat} (h : W.cell? a = some (.slice b x c)) (e : x = y) : W.cell? a = some (.slice b y c) := by rw [h, e]
/-- What tsigData has filled in. -/
theorem t_cells {X W : World} {d : Obj} {t0 t1 t2 t3 t4 t5 : Value} (h : Below (X.heap.size + 2) ((X.alloc d).alloc (.cells #[t0, t1, t2, t3, t4, t5] 36)) W) :
    W.cell? ⟨X.heap.size + 1, 0, none⟩ = some t0 ∧ W.cell? ⟨X.heap.size + 1, 1, none⟩ = some t1 ∧ W.cell? ⟨X.heap.size + 1, 2, none⟩ = some t2 ∧ W.cell? ⟨X.heap.size + 1, 3, none⟩ = some t3 ∧ W.cell? ⟨X.heap.size + 1, 4, none⟩ = some t4 ∧ W.cell? ⟨X.heap.size + 1, 5, none⟩ = some t5 :=
  ⟨cell_of h (by omega) (by simp), cell_of h (by omega) (by simp), cell_of h (by omega) (by simp), cell_of h (by omega) (by simp), cell_of h (by omega) (by simp), cell_of h (by omega) (by simp)⟩

set_option maxHeartbeats 1000000 in
/-- Fewer than ten octets. -/
theorem tsig_f1 (X : World) (g n cap p : Nat) (c : Nat → Int) (u : Value) (_hn : n ≤ cap) (_hcap : cap ≤ 100000) 
    (_hg : g < X.heap.size) (_hc : ∀ i, i < n → X.cell? ⟨g, i, none⟩ = some (.int .u8 (c i))) (_hb : ∀ i, i < n → 0 ≤ c i ∧ c i ≤ 255)
    (Te : TypeId) (xe : Value) (h1g : 1 < X.heap.size) (hG : X.cell? ⟨1, 0, none⟩ = some (.iface Te xe)) (hlo : p ≤ n) (hp : n < p + 10) :
    Calls Ybad.prog 6 #[.pointer (some ⟨X.heap.size, 0, none⟩), .pointer (some ⟨X.heap.size + 1, 0, none⟩)]
      (two X #[.slice (some ⟨g, 0, none⟩) n cap, .int .i64 p, .nilIface, u] #[.int .u64 0, .int .u16 0, .slice none 0 0, .int .u16 0, .int .u16 0, .slice none 0 0]) fun e w' => e = .returned (.tuple #[]) ∧
      w'.cell? ⟨X.heap.size, 1, none⟩ = some (.int .i64 p) ∧ w'.cell? ⟨X.heap.size, 2, none⟩ = some (.iface Te xe) ∧ Below X.heap.size X w' := by
  clear _hc _hb
  go_enter Ybad.func6, Ybad.ntmps6
  go_wp2
  go_region
  go_wp2_with (go_at_call 8; refine (fail_set X.heap.size Te xe _ (d_cells (by repeat (first | with_reducible exact Below.refl _ _ | with_reducible apply Below.drew | with_reducible refine Below.alloc ?_ (by simp <;> omega) _ | with_reducible refine Below.setCell ?_ (by simp) _))).2 (d_free (by repeat (first | with_reducible exact Below.refl _ _ | with_reducible apply Below.drew | with_reducible refine Below.alloc ?_ (by simp <;> omega) _ | with_reducible refine Below.setCell ?_ (by simp) _))) (cell_of (B := X.heap.size) (X := X) (by repeat (first | with_reducible exact Below.refl _ _ | with_reducible apply Below.drew | with_reducible refine Below.alloc ?_ (by simp <;> omega) _ | with_reducible refine Below.setCell ?_ (by simp) _)) h1g hG)).mono ?_; rintro e w' ⟨rfl, rfl⟩)
  refine bodyPost_ret (results_none rfl _ _ _) rfl ?_
  exact ⟨rfl, (d_cells (by repeat (first | with_reducible exact Below.refl _ _ | with_reducible apply Below.drew | with_reducible refine Below.alloc ?_ (by simp <;> omega) _ | with_reducible refine Below.setCell ?_ (by simp) _))).1, (d_cells (by repeat (first | with_reducible exact Below.refl _ _ | with_reducible apply Below.drew | with_reducible refine Below.alloc ?_ (by simp <;> omega) _ | with_reducible refine Below.setCell ?_ (by simp) _))).2, by repeat (first | with_reducible exact Below.refl _ _ | with_reducible apply Below.drew | with_reducible refine Below.alloc ?_ (by simp <;> omega) _ | with_reducible refine Below.setCell ?_ (by simp) _)⟩

set_option maxHeartbeats 4000000 in
/-- The MAC, or what follows it, is cut. -/
theorem tsig_f2 (X : World) (g n cap p : Nat) (c : Nat → Int) (u : Value) (hn : n ≤ cap) (hcap : cap ≤ 100000) (hg : g < X.heap.size)
    (hc : ∀ i, i < n → X.cell? ⟨g, i, none⟩ = some (.int .u8 (c i))) (hb : ∀ i, i < n → 0 ≤ c i ∧ c i ≤ 255)
    (Te : TypeId) (xe : Value) (h1g : 1 < X.heap.size) (hG : X.cell? ⟨1, 0, none⟩ = some (.iface Te xe)) (hi lo fud : Int) (mac : Nat) (h0 : c p * 256 + c (p + 1) = hi) (h2 : c (p + 2) * 16777216 + c (p + 3) * 65536 + c (p + 4) * 256 + c (p + 5) = lo) (h6 : c (p + 6) * 256 + c (p + 7) = fud) (h8 : c (p + 8) * 256 + c (p + 9) = (mac : Int)) (hlo : p + 10 ≤ n) (hp : n < p + 16 + mac) :
    Calls Ybad.prog 6 #[.pointer (some ⟨X.heap.size, 0, none⟩), .pointer (some ⟨X.heap.size + 1, 0, none⟩)]
      (two X #[.slice (some ⟨g, 0, none⟩) n cap, .int .i64 p, .nilIface, u] #[.int .u64 0, .int .u16 0, .slice none 0 0, .int .u16 0, .int .u16 0, .slice none 0 0]) fun e w' => e = .returned (.tuple #[]) ∧
      w'.cell? ⟨X.heap.size, 1, none⟩ = some (.int .i64 p) ∧ w'.cell? ⟨X.heap.size, 2, none⟩ = some (.iface Te xe) ∧ Below X.heap.size X w' := by
  have HC := hid hc
  have HB := hid hb
  clear hc hb
  have hne : ¬ cap = p := by omega
  have ha : ∀ w, (Instr.arrayAt 67 (.slice (some ⟨g, p, none⟩) (n - p) (cap - p))).run Ybad.prog w = .ok (.pointer (some ⟨g, p, none⟩)) w := fun w => run_arrayAt w 67 5 10 _ _ _ Ybad.underlying67 (by omega)
  have H0 := hid h0
  have H2 := hid h2
  have H6 := hid h6
  have H8 := hid h8
  clear h0 h2 h6 h8
  have q0 := HC.out (p) (by omega)
  have r0 := HB.out (p) (by omega)
  have q1 := HC.out (p + 1) (by omega)
  have r1 := HB.out (p + 1) (by omega)
  have q2 := HC.out (p + 2) (by omega)
  have r2 := HB.out (p + 2) (by omega)
  have q3 := HC.out (p + 3) (by omega)
  have r3 := HB.out (p + 3) (by omega)
  have q4 := HC.out (p + 4) (by omega)
  have r4 := HB.out (p + 4) (by omega)
  have q5 := HC.out (p + 5) (by omega)
  have r5 := HB.out (p + 5) (by omega)
  have q6 := HC.out (p + 6) (by omega)
  have r6 := HB.out (p + 6) (by omega)
  have q7 := HC.out (p + 7) (by omega)
  have r7 := HB.out (p + 7) (by omega)
  have q8 := HC.out (p + 8) (by omega)
  have r8 := HB.out (p + 8) (by omega)
  have q9 := HC.out (p + 9) (by omega)
  have r9 := HB.out (p + 9) (by omega)
  have hmc : mac ≤ 65535 := by have := H8.out; omega
  go_enter Ybad.func6, Ybad.ntmps6
  go_wp2
  go_region
  go_wp2
  go_region_held3 (fun w' => Below X.heap.size X w') (repeat (first | with_reducible assumption | with_reducible exact Below.refl _ _ | with_reducible apply Below.drew | with_reducible refine Below.alloc ?_ (by simp <;> omega) _ | with_reducible refine Below.setCell ?_ (by simp) _))
    (first
      | (go_at_call 9; refine (u16_is g (p) 10 10 _ _ hi H0.out _ (by omega) (cell_of (by assumption) hg q0) (cell_of (by assumption) hg q1) r0 r1).mono ?_; rintro e w' ⟨rfl, rfl⟩)
      | (go_at_call 10; refine (u32_is g (p + 2) 8 8 _ _ _ _ lo H2.out _ (by omega) (cell_of (by assumption) hg q2) (cell_of (by assumption) hg q3) (cell_of (by assumption) hg q4) (cell_of (by assumption) hg q5) r2 r3 r4 r5).mono ?_; rintro e w' ⟨rfl, rfl⟩))
  go_wp2
  go_region_held3 (fun w' => Below X.heap.size X w') (repeat (first | with_reducible assumption | with_reducible exact Below.refl _ _ | with_reducible apply Below.drew | with_reducible refine Below.alloc ?_ (by simp <;> omega) _ | with_reducible refine Below.setCell ?_ (by simp) _))
    (first
      | (go_at_call 9; refine (u16_is g (p + 6) 4 4 _ _ fud H6.out _ (by omega) (cell_of (by assumption) hg q6) (cell_of (by assumption) hg q7) r6 r7).mono ?_; rintro e w' ⟨rfl, rfl⟩))
  go_wp2
  go_region_held3 (fun w' => Below X.heap.size X w') (repeat (first | with_reducible assumption | with_reducible exact Below.refl _ _ | with_reducible apply Below.drew | with_reducible refine Below.alloc ?_ (by simp <;> omega) _ | with_reducible refine Below.setCell ?_ (by simp) _))
    (first
      | (go_at_call 9; refine (u16_is g (p + 8) 2 2 _ _ mac H8.out _ (by omega) (cell_of (by assumption) hg q8) (cell_of (by assumption) hg q9) r8 r9).mono ?_; rintro e w' ⟨rfl, rfl⟩))
  go_wp2_with (go_at_call 8; refine (fail_set X.heap.size Te xe _ (d_cells (by repeat (first | with_reducible exact Below.refl _ _ | with_reducible apply Below.drew | with_reducible refine Below.alloc ?_ (by simp <;> omega) _ | with_reducible refine Below.setCell ?_ (by simp) _))).2 (d_free (by repeat (first | with_reducible exact Below.refl _ _ | with_reducible apply Below.drew | with_reducible refine Below.alloc ?_ (by simp <;> omega) _ | with_reducible refine Below.setCell ?_ (by simp) _))) (cell_of (B := X.heap.size) (X := X) (by repeat (first | with_reducible exact Below.refl _ _ | with_reducible apply Below.drew | with_reducible refine Below.alloc ?_ (by simp <;> omega) _ | with_reducible refine Below.setCell ?_ (by simp) _)) h1g hG)).mono ?_; rintro e w' ⟨rfl, rfl⟩)
  refine bodyPost_ret (results_none rfl _ _ _) rfl ?_
  exact ⟨rfl, (d_cells (by repeat (first | with_reducible exact Below.refl _ _ | with_reducible apply Below.drew | with_reducible refine Below.alloc ?_ (by simp <;> omega) _ | with_reducible refine Below.setCell ?_ (by simp) _))).1, (d_cells (by repeat (first | with_reducible exact Below.refl _ _ | with_reducible apply Below.drew | with_reducible refine Below.alloc ?_ (by simp <;> omega) _ | with_reducible refine Below.setCell ?_ (by simp) _))).2, by repeat (first | with_reducible exact Below.refl _ _ | with_reducible apply Below.drew | with_reducible refine Below.alloc ?_ (by simp <;> omega) _ | with_reducible refine Below.setCell ?_ (by simp) _)⟩

set_option maxHeartbeats 4000000 in
/-- The other data is cut. -/
theorem tsig_f3 (X : World) (g n cap p : Nat) (c : Nat → Int) (u : Value) (hn : n ≤ cap) (hcap : cap ≤ 100000) (hg : g < X.heap.size)
    (hc : ∀ i, i < n → X.cell? ⟨g, i, none⟩ = some (.int .u8 (c i))) (hb : ∀ i, i < n → 0 ≤ c i ∧ c i ≤ 255)
    (Te : TypeId) (xe : Value) (h1g : 1 < X.heap.size) (hG : X.cell? ⟨1, 0, none⟩ = some (.iface Te xe)) (hi lo fud : Int) (mac : Nat) (h0 : c p * 256 + c (p + 1) = hi) (h2 : c (p + 2) * 16777216 + c (p + 3) * 65536 + c (p + 4) * 256 + c (p + 5) = lo) (h6 : c (p + 6) * 256 + c (p + 7) = fud) (h8 : c (p + 8) * 256 + c (p + 9) = (mac : Int)) (idd rcc : Int) (oth : Nat) (k0 : c (p + 10 + mac) * 256 + c (p + 10 + mac + 1) = idd) (k2 : c (p + 10 + mac + 2) * 256 + c (p + 10 + mac + 3) = rcc) (k4 : c (p + 10 + mac + 4) * 256 + c (p + 10 + mac + 5) = (oth : Int)) (hp : p + 16 + mac ≤ n) (hq : n < p + 16 + mac + oth) :
    Calls Ybad.prog 6 #[.pointer (some ⟨X.heap.size, 0, none⟩), .pointer (some ⟨X.heap.size + 1, 0, none⟩)]
      (two X #[.slice (some ⟨g, 0, none⟩) n cap, .int .i64 p, .nilIface, u] #[.int .u64 0, .int .u16 0, .slice none 0 0, .int .u16 0, .int .u16 0, .slice none 0 0]) fun e w' => e = .returned (.tuple #[]) ∧
      w'.cell? ⟨X.heap.size, 1, none⟩ = some (.int .i64 p) ∧ w'.cell? ⟨X.heap.size, 2, none⟩ = some (.iface Te xe) ∧ Below X.heap.size X w' := by
  have HC := hid hc
  have HB := hid hb
  clear hc hb
  have hne : ¬ cap = p := by omega
  have ha : ∀ w, (Instr.arrayAt 67 (.slice (some ⟨g, p, none⟩) (n - p) (cap - p))).run Ybad.prog w = .ok (.pointer (some ⟨g, p, none⟩)) w := fun w => run_arrayAt w 67 5 10 _ _ _ Ybad.underlying67 (by omega)
  have H0 := hid h0
  have H2 := hid h2
  have H6 := hid h6
  have H8 := hid h8
  clear h0 h2 h6 h8
  have q0 := HC.out (p) (by omega)
  have r0 := HB.out (p) (by omega)
  have q1 := HC.out (p + 1) (by omega)
  have r1 := HB.out (p + 1) (by omega)
  have q2 := HC.out (p + 2) (by omega)
  have r2 := HB.out (p + 2) (by omega)
  have q3 := HC.out (p + 3) (by omega)
  have r3 := HB.out (p + 3) (by omega)
  have q4 := HC.out (p + 4) (by omega)
  have r4 := HB.out (p + 4) (by omega)
  have q5 := HC.out (p + 5) (by omega)
  have r5 := HB.out (p + 5) (by omega)
  have q6 := HC.out (p + 6) (by omega)
  have r6 := HB.out (p + 6) (by omega)
  have q7 := HC.out (p + 7) (by omega)
  have r7 := HB.out (p + 7) (by omega)
  have q8 := HC.out (p + 8) (by omega)
  have r8 := HB.out (p + 8) (by omega)
  have q9 := HC.out (p + 9) (by omega)
  have r9 := HB.out (p + 9) (by omega)
  have hne2 : ¬ cap = p + 10 + mac := by omega
  have hne3 : ¬ cap = p + 10 := by omega
  have hf : 0 ≤ fud ∧ fud ≤ 65535 := by rw [← H6.out]; omega
  have hh : 0 ≤ hi ∧ hi ≤ 65535 := by rw [← H0.out]; omega
  have hl : 0 ≤ lo ∧ lo ≤ 4294967295 := by rw [← H2.out]; omega
  have ha2 : ∀ w, (Instr.arrayAt 68 (.slice (some ⟨g, p + 10 + mac, none⟩) (n - (p + 10 + mac)) (cap - (p + 10 + mac)))).run Ybad.prog w = .ok (.pointer (some ⟨g, p + 10 + mac, none⟩)) w := fun w => run_arrayAt w 68 5 6 _ _ _ Ybad.underlying68 (by omega)
  have hmc : mac ≤ 65535 := by have := H8.out; omega
  have s0 := HC.out (p + 10 + mac) (by omega)
  have t0 := HB.out (p + 10 + mac) (by omega)
  have s1 := HC.out (p + 10 + mac + 1) (by omega)
  have t1 := HB.out (p + 10 + mac + 1) (by omega)
  have s2 := HC.out (p + 10 + mac + 2) (by omega)
  have t2 := HB.out (p + 10 + mac + 2) (by omega)
  have s3 := HC.out (p + 10 + mac + 3) (by omega)
  have t3 := HB.out (p + 10 + mac + 3) (by omega)
  have s4 := HC.out (p + 10 + mac + 4) (by omega)
  have t4 := HB.out (p + 10 + mac + 4) (by omega)
  have s5 := HC.out (p + 10 + mac + 5) (by omega)
  have t5 := HB.out (p + 10 + mac + 5) (by omega)
  have K0 := hid k0
  have K2 := hid k2
  have K4 := hid k4
  clear k0 k2 k4
  have ho : oth ≤ 65535 := by have := K4.out; omega
  go_enter Ybad.func6, Ybad.ntmps6
  go_wp2
  go_region
  go_wp2
  go_region_held3 (fun w' => Below X.heap.size X w') (repeat (first | with_reducible assumption | with_reducible exact Below.refl _ _ | with_reducible apply Below.drew | with_reducible refine Below.alloc ?_ (by simp <;> omega) _ | with_reducible refine Below.setCell ?_ (by simp) _))
    (first
      | (go_at_call 9; refine (u16_is g (p) 10 10 _ _ hi H0.out _ (by omega) (cell_of (by assumption) hg q0) (cell_of (by assumption) hg q1) r0 r1).mono ?_; rintro e w' ⟨rfl, rfl⟩)
      | (go_at_call 10; refine (u32_is g (p + 2) 8 8 _ _ _ _ lo H2.out _ (by omega) (cell_of (by assumption) hg q2) (cell_of (by assumption) hg q3) (cell_of (by assumption) hg q4) (cell_of (by assumption) hg q5) r2 r3 r4 r5).mono ?_; rintro e w' ⟨rfl, rfl⟩))
  go_wp2
  go_region_held3 (fun w' => Below X.heap.size X w') (repeat (first | with_reducible assumption | with_reducible exact Below.refl _ _ | with_reducible apply Below.drew | with_reducible refine Below.alloc ?_ (by simp <;> omega) _ | with_reducible refine Below.setCell ?_ (by simp) _))
    (first
      | (go_at_call 9; refine (u16_is g (p + 6) 4 4 _ _ fud H6.out _ (by omega) (cell_of (by assumption) hg q6) (cell_of (by assumption) hg q7) r6 r7).mono ?_; rintro e w' ⟨rfl, rfl⟩))
  go_wp2
  go_region_held3 (fun w' => Below X.heap.size X w') (repeat (first | with_reducible assumption | with_reducible exact Below.refl _ _ | with_reducible apply Below.drew | with_reducible refine Below.alloc ?_ (by simp <;> omega) _ | with_reducible refine Below.setCell ?_ (by simp) _))
    (first
      | (go_at_call 9; refine (u16_is g (p + 8) 2 2 _ _ mac H8.out _ (by omega) (cell_of (by assumption) hg q8) (cell_of (by assumption) hg q9) r8 r9).mono ?_; rintro e w' ⟨rfl, rfl⟩))
  go_wp2
  have tok1 : True := trivial
  go_region_held3 (fun w' => Below X.heap.size X w') (repeat (first | with_reducible assumption | with_reducible exact Below.refl _ _ | with_reducible apply Below.drew | with_reducible refine Below.alloc ?_ (by simp <;> omega) _ | with_reducible refine Below.setCell ?_ (by simp) _))
    (first
      | (go_at_call 9; have _t := tok1; refine (u16_is g (p + 10 + mac) 6 6 _ _ idd K0.out _ (by omega) (cell_of (by assumption) hg s0) (cell_of (by assumption) hg s1) t0 t1).mono ?_; rintro e w' ⟨rfl, rfl⟩; clear tok1 _t)
      | (go_at_call 9; refine (u16_is g (p + 10 + mac + 2) 4 4 _ _ rcc K2.out _ (by omega) (cell_of (by assumption) hg s2) (cell_of (by assumption) hg s3) t2 t3).mono ?_; rintro e w' ⟨rfl, rfl⟩))
  go_wp2
  go_region_held3 (fun w' => Below X.heap.size X w') (repeat (first | with_reducible assumption | with_reducible exact Below.refl _ _ | with_reducible apply Below.drew | with_reducible refine Below.alloc ?_ (by simp <;> omega) _ | with_reducible refine Below.setCell ?_ (by simp) _))
    (first
      | (go_at_call 9; refine (u16_is g (p + 10 + mac + 4) 2 2 _ _ oth K4.out _ (by omega) (cell_of (by assumption) hg s4) (cell_of (by assumption) hg s5) t4 t5).mono ?_; rintro e w' ⟨rfl, rfl⟩))
  go_wp2_with (go_at_call 8; refine (fail_set X.heap.size Te xe _ (d_cells (by repeat (first | with_reducible exact Below.refl _ _ | with_reducible apply Below.drew | with_reducible refine Below.alloc ?_ (by simp <;> omega) _ | with_reducible refine Below.setCell ?_ (by simp) _))).2 (d_free (by repeat (first | with_reducible exact Below.refl _ _ | with_reducible apply Below.drew | with_reducible refine Below.alloc ?_ (by simp <;> omega) _ | with_reducible refine Below.setCell ?_ (by simp) _))) (cell_of (B := X.heap.size) (X := X) (by repeat (first | with_reducible exact Below.refl _ _ | with_reducible apply Below.drew | with_reducible refine Below.alloc ?_ (by simp <;> omega) _ | with_reducible refine Below.setCell ?_ (by simp) _)) h1g hG)).mono ?_; rintro e w' ⟨rfl, rfl⟩)
  refine bodyPost_ret (results_none rfl _ _ _) rfl ?_
  exact ⟨rfl, (d_cells (by repeat (first | with_reducible exact Below.refl _ _ | with_reducible apply Below.drew | with_reducible refine Below.alloc ?_ (by simp <;> omega) _ | with_reducible refine Below.setCell ?_ (by simp) _))).1, (d_cells (by repeat (first | with_reducible exact Below.refl _ _ | with_reducible apply Below.drew | with_reducible refine Below.alloc ?_ (by simp <;> omega) _ | with_reducible refine Below.setCell ?_ (by simp) _))).2, by repeat (first | with_reducible exact Below.refl _ _ | with_reducible apply Below.drew | with_reducible refine Below.alloc ?_ (by simp <;> omega) _ | with_reducible refine Below.setCell ?_ (by simp) _)⟩

set_option maxHeartbeats 4000000 in
/-- All is there. -/
theorem tsig_ok (X : World) (g n cap p : Nat) (c : Nat → Int) (u : Value) (hn : n ≤ cap) (hcap : cap ≤ 100000) (hg : g < X.heap.size)
    (hc : ∀ i, i < n → X.cell? ⟨g, i, none⟩ = some (.int .u8 (c i))) (hb : ∀ i, i < n → 0 ≤ c i ∧ c i ≤ 255)
    (hi lo fud : Int) (mac : Nat) (h0 : c p * 256 + c (p + 1) = hi) (h2 : c (p + 2) * 16777216 + c (p + 3) * 65536 + c (p + 4) * 256 + c (p + 5) = lo) (h6 : c (p + 6) * 256 + c (p + 7) = fud) (h8 : c (p + 8) * 256 + c (p + 9) = (mac : Int)) (idd rcc : Int) (oth : Nat) (k0 : c (p + 10 + mac) * 256 + c (p + 10 + mac + 1) = idd) (k2 : c (p + 10 + mac + 2) * 256 + c (p + 10 + mac + 3) = rcc) (k4 : c (p + 10 + mac + 4) * 256 + c (p + 10 + mac + 5) = (oth : Int)) (hp : p + 16 + mac + oth ≤ n) (hE : ¬ cap = p + 10 + mac + 6) :
    Calls Ybad.prog 6 #[.pointer (some ⟨X.heap.size, 0, none⟩), .pointer (some ⟨X.heap.size + 1, 0, none⟩)]
      (two X #[.slice (some ⟨g, 0, none⟩) n cap, .int .i64 p, .nilIface, u] #[.int .u64 0, .int .u16 0, .slice none 0 0, .int .u16 0, .int .u16 0, .slice none 0 0]) fun e w' => e = .returned (.tuple #[]) ∧
      w'.cell? ⟨X.heap.size, 1, none⟩ = some (.int .i64 ((p + 16 + mac + oth : Nat) : Int)) ∧ w'.cell? ⟨X.heap.size, 2, none⟩ = some .nilIface ∧ Below X.heap.size X w' ∧
      w'.cell? ⟨X.heap.size + 1, 0, none⟩ = some (.int .u64 (bits .or .u64 (hi * 4294967296) lo)) ∧ w'.cell? ⟨X.heap.size + 1, 1, none⟩ = some (.int .u16 fud) ∧ (∃ c2, w'.cell? ⟨X.heap.size + 1, 2, none⟩ = some (.slice (some ⟨g, p + 10, none⟩) mac c2)) ∧
      w'.cell? ⟨X.heap.size + 1, 3, none⟩ = some (.int .u16 idd) ∧ w'.cell? ⟨X.heap.size + 1, 4, none⟩ = some (.int .u16 rcc) ∧ ∃ a5 c5, w'.cell? ⟨X.heap.size + 1, 5, none⟩ = some (.slice a5 oth c5) ∧ (oth = 0 ∨ a5 = some ⟨g, p + 16 + mac, none⟩) := by
  have HC := hid hc
  have HB := hid hb
  clear hc hb
  have hne : ¬ cap = p := by omega
  have ha : ∀ w, (Instr.arrayAt 67 (.slice (some ⟨g, p, none⟩) (n - p) (cap - p))).run Ybad.prog w = .ok (.pointer (some ⟨g, p, none⟩)) w := fun w => run_arrayAt w 67 5 10 _ _ _ Ybad.underlying67 (by omega)
  have H0 := hid h0
  have H2 := hid h2
  have H6 := hid h6
  have H8 := hid h8
  clear h0 h2 h6 h8
  have q0 := HC.out (p) (by omega)
  have r0 := HB.out (p) (by omega)
  have q1 := HC.out (p + 1) (by omega)
  have r1 := HB.out (p + 1) (by omega)
  have q2 := HC.out (p + 2) (by omega)
  have r2 := HB.out (p + 2) (by omega)
  have q3 := HC.out (p + 3) (by omega)
  have r3 := HB.out (p + 3) (by omega)
  have q4 := HC.out (p + 4) (by omega)
  have r4 := HB.out (p + 4) (by omega)
  have q5 := HC.out (p + 5) (by omega)
  have r5 := HB.out (p + 5) (by omega)
  have q6 := HC.out (p + 6) (by omega)
  have r6 := HB.out (p + 6) (by omega)
  have q7 := HC.out (p + 7) (by omega)
  have r7 := HB.out (p + 7) (by omega)
  have q8 := HC.out (p + 8) (by omega)
  have r8 := HB.out (p + 8) (by omega)
  have q9 := HC.out (p + 9) (by omega)
  have r9 := HB.out (p + 9) (by omega)
  have hne2 : ¬ cap = p + 10 + mac := by omega
  have hne3 : ¬ cap = p + 10 := by omega
  have hf : 0 ≤ fud ∧ fud ≤ 65535 := by rw [← H6.out]; omega
  have hh : 0 ≤ hi ∧ hi ≤ 65535 := by rw [← H0.out]; omega
  have hl : 0 ≤ lo ∧ lo ≤ 4294967295 := by rw [← H2.out]; omega
  have ha2 : ∀ w, (Instr.arrayAt 68 (.slice (some ⟨g, p + 10 + mac, none⟩) (n - (p + 10 + mac)) (cap - (p + 10 + mac)))).run Ybad.prog w = .ok (.pointer (some ⟨g, p + 10 + mac, none⟩)) w := fun w => run_arrayAt w 68 5 6 _ _ _ Ybad.underlying68 (by omega)
  have hmc : mac ≤ 65535 := by have := H8.out; omega
  have s0 := HC.out (p + 10 + mac) (by omega)
  have t0 := HB.out (p + 10 + mac) (by omega)
  have s1 := HC.out (p + 10 + mac + 1) (by omega)
  have t1 := HB.out (p + 10 + mac + 1) (by omega)
  have s2 := HC.out (p + 10 + mac + 2) (by omega)
  have t2 := HB.out (p + 10 + mac + 2) (by omega)
  have s3 := HC.out (p + 10 + mac + 3) (by omega)
  have t3 := HB.out (p + 10 + mac + 3) (by omega)
  have s4 := HC.out (p + 10 + mac + 4) (by omega)
  have t4 := HB.out (p + 10 + mac + 4) (by omega)
  have s5 := HC.out (p + 10 + mac + 5) (by omega)
  have t5 := HB.out (p + 10 + mac + 5) (by omega)
  have K0 := hid k0
  have K2 := hid k2
  have K4 := hid k4
  clear k0 k2 k4
  have ho : oth ≤ 65535 := by have := K4.out; omega
  go_enter Ybad.func6, Ybad.ntmps6
  go_wp2
  go_region
  go_wp2
  go_region_held3 (fun w' => Below X.heap.size X w') (repeat (first | with_reducible assumption | with_reducible exact Below.refl _ _ | with_reducible apply Below.drew | with_reducible refine Below.alloc ?_ (by simp <;> omega) _ | with_reducible refine Below.setCell ?_ (by simp) _))
    (first
      | (go_at_call 9; refine (u16_is g (p) 10 10 _ _ hi H0.out _ (by omega) (cell_of (by assumption) hg q0) (cell_of (by assumption) hg q1) r0 r1).mono ?_; rintro e w' ⟨rfl, rfl⟩)
      | (go_at_call 10; refine (u32_is g (p + 2) 8 8 _ _ _ _ lo H2.out _ (by omega) (cell_of (by assumption) hg q2) (cell_of (by assumption) hg q3) (cell_of (by assumption) hg q4) (cell_of (by assumption) hg q5) r2 r3 r4 r5).mono ?_; rintro e w' ⟨rfl, rfl⟩))
  go_wp2
  go_region_held3 (fun w' => Below X.heap.size X w') (repeat (first | with_reducible assumption | with_reducible exact Below.refl _ _ | with_reducible apply Below.drew | with_reducible refine Below.alloc ?_ (by simp <;> omega) _ | with_reducible refine Below.setCell ?_ (by simp) _))
    (first
      | (go_at_call 9; refine (u16_is g (p + 6) 4 4 _ _ fud H6.out _ (by omega) (cell_of (by assumption) hg q6) (cell_of (by assumption) hg q7) r6 r7).mono ?_; rintro e w' ⟨rfl, rfl⟩))
  go_wp2
  go_region_held3 (fun w' => Below X.heap.size X w') (repeat (first | with_reducible assumption | with_reducible exact Below.refl _ _ | with_reducible apply Below.drew | with_reducible refine Below.alloc ?_ (by simp <;> omega) _ | with_reducible refine Below.setCell ?_ (by simp) _))
    (first
      | (go_at_call 9; refine (u16_is g (p + 8) 2 2 _ _ mac H8.out _ (by omega) (cell_of (by assumption) hg q8) (cell_of (by assumption) hg q9) r8 r9).mono ?_; rintro e w' ⟨rfl, rfl⟩))
  go_wp2
  have tok1 : True := trivial
  go_region_held3 (fun w' => Below X.heap.size X w') (repeat (first | with_reducible assumption | with_reducible exact Below.refl _ _ | with_reducible apply Below.drew | with_reducible refine Below.alloc ?_ (by simp <;> omega) _ | with_reducible refine Below.setCell ?_ (by simp) _))
    (first
      | (go_at_call 9; have _t := tok1; refine (u16_is g (p + 10 + mac) 6 6 _ _ idd K0.out _ (by omega) (cell_of (by assumption) hg s0) (cell_of (by assumption) hg s1) t0 t1).mono ?_; rintro e w' ⟨rfl, rfl⟩; clear tok1 _t)
      | (go_at_call 9; refine (u16_is g (p + 10 + mac + 2) 4 4 _ _ rcc K2.out _ (by omega) (cell_of (by assumption) hg s2) (cell_of (by assumption) hg s3) t2 t3).mono ?_; rintro e w' ⟨rfl, rfl⟩))
  go_wp2
  go_region_held3 (fun w' => Below X.heap.size X w') (repeat (first | with_reducible assumption | with_reducible exact Below.refl _ _ | with_reducible apply Below.drew | with_reducible refine Below.alloc ?_ (by simp <;> omega) _ | with_reducible refine Below.setCell ?_ (by simp) _))
    (first
      | (go_at_call 9; refine (u16_is g (p + 10 + mac + 4) 2 2 _ _ oth K4.out _ (by omega) (cell_of (by assumption) hg s4) (cell_of (by assumption) hg s5) t4 t5).mono ?_; rintro e w' ⟨rfl, rfl⟩))
  go_wp2
  go_end0
  refine ⟨rfl, some_int (d_cells (by repeat (first | with_reducible exact Below.refl _ _ | with_reducible apply Below.drew | with_reducible refine Below.alloc ?_ (by simp <;> omega) _ | with_reducible refine Below.setCell ?_ (by simp) _))).1 (by omega), (d_cells (by repeat (first | with_reducible exact Below.refl _ _ | with_reducible apply Below.drew | with_reducible refine Below.alloc ?_ (by simp <;> omega) _ | with_reducible refine Below.setCell ?_ (by simp) _))).2, by repeat (first | with_reducible exact Below.refl _ _ | with_reducible apply Below.drew | with_reducible refine Below.alloc ?_ (by simp <;> omega) _ | with_reducible refine Below.setCell ?_ (by simp) _), (t_cells (by repeat (first | with_reducible exact Below.refl _ _ | with_reducible apply Below.drew | with_reducible refine Below.alloc ?_ (by simp <;> omega) _ | with_reducible refine Below.setCell ?_ (by simp) _))).1, (t_cells (by repeat (first | with_reducible exact Below.refl _ _ | with_reducible apply Below.drew | with_reducible refine Below.alloc ?_ (by simp <;> omega) _ | with_reducible refine Below.setCell ?_ (by simp) _))).2.1, ⟨_, (t_cells (by repeat (first | with_reducible exact Below.refl _ _ | with_reducible apply Below.drew | with_reducible refine Below.alloc ?_ (by simp <;> omega) _ | with_reducible refine Below.setCell ?_ (by simp) _))).2.2.1⟩, (t_cells (by repeat (first | with_reducible exact Below.refl _ _ | with_reducible apply Below.drew | with_reducible refine Below.alloc ?_ (by simp <;> omega) _ | with_reducible refine Below.setCell ?_ (by simp) _))).2.2.2.1, (t_cells (by repeat (first | with_reducible exact Below.refl _ _ | with_reducible apply Below.drew | with_reducible refine Below.alloc ?_ (by simp <;> omega) _ | with_reducible refine Below.setCell ?_ (by simp) _))).2.2.2.2.1, _, _, some_slice (t_cells (by repeat (first | with_reducible exact Below.refl _ _ | with_reducible apply Below.drew | with_reducible refine Below.alloc ?_ (by simp <;> omega) _ | with_reducible refine Below.setCell ?_ (by simp) _))).2.2.2.2.2 (by omega), ?_⟩
  exact .inr (by rw [show p + 16 + mac = p + 10 + mac + 6 by omega])

set_option maxHeartbeats 4000000 in
/-- All is there. -/
theorem tsig_okE (X : World) (g n cap p : Nat) (c : Nat → Int) (u : Value) (hn : n ≤ cap) (hcap : cap ≤ 100000) (hg : g < X.heap.size)
    (hc : ∀ i, i < n → X.cell? ⟨g, i, none⟩ = some (.int .u8 (c i))) (hb : ∀ i, i < n → 0 ≤ c i ∧ c i ≤ 255)
    (hi lo fud : Int) (mac : Nat) (h0 : c p * 256 + c (p + 1) = hi) (h2 : c (p + 2) * 16777216 + c (p + 3) * 65536 + c (p + 4) * 256 + c (p + 5) = lo) (h6 : c (p + 6) * 256 + c (p + 7) = fud) (h8 : c (p + 8) * 256 + c (p + 9) = (mac : Int)) (idd rcc : Int) (oth : Nat) (k0 : c (p + 10 + mac) * 256 + c (p + 10 + mac + 1) = idd) (k2 : c (p + 10 + mac + 2) * 256 + c (p + 10 + mac + 3) = rcc) (k4 : c (p + 10 + mac + 4) * 256 + c (p + 10 + mac + 5) = (oth : Int)) (hp : p + 16 + mac + oth ≤ n) (hE : p + 10 + mac + 6 = cap) :
    Calls Ybad.prog 6 #[.pointer (some ⟨X.heap.size, 0, none⟩), .pointer (some ⟨X.heap.size + 1, 0, none⟩)]
      (two X #[.slice (some ⟨g, 0, none⟩) n cap, .int .i64 p, .nilIface, u] #[.int .u64 0, .int .u16 0, .slice none 0 0, .int .u16 0, .int .u16 0, .slice none 0 0]) fun e w' => e = .returned (.tuple #[]) ∧
      w'.cell? ⟨X.heap.size, 1, none⟩ = some (.int .i64 ((p + 16 + mac + oth : Nat) : Int)) ∧ w'.cell? ⟨X.heap.size, 2, none⟩ = some .nilIface ∧ Below X.heap.size X w' ∧
      w'.cell? ⟨X.heap.size + 1, 0, none⟩ = some (.int .u64 (bits .or .u64 (hi * 4294967296) lo)) ∧ w'.cell? ⟨X.heap.size + 1, 1, none⟩ = some (.int .u16 fud) ∧ (∃ c2, w'.cell? ⟨X.heap.size + 1, 2, none⟩ = some (.slice (some ⟨g, p + 10, none⟩) mac c2)) ∧
      w'.cell? ⟨X.heap.size + 1, 3, none⟩ = some (.int .u16 idd) ∧ w'.cell? ⟨X.heap.size + 1, 4, none⟩ = some (.int .u16 rcc) ∧ ∃ a5 c5, w'.cell? ⟨X.heap.size + 1, 5, none⟩ = some (.slice a5 oth c5) ∧ (oth = 0 ∨ a5 = some ⟨g, p + 16 + mac, none⟩) := by
  have HC := hid hc
  have HB := hid hb
  clear hc hb
  have hne : ¬ cap = p := by omega
  have ha : ∀ w, (Instr.arrayAt 67 (.slice (some ⟨g, p, none⟩) (n - p) (cap - p))).run Ybad.prog w = .ok (.pointer (some ⟨g, p, none⟩)) w := fun w => run_arrayAt w 67 5 10 _ _ _ Ybad.underlying67 (by omega)
  have H0 := hid h0
  have H2 := hid h2
  have H6 := hid h6
  have H8 := hid h8
  clear h0 h2 h6 h8
  have q0 := HC.out (p) (by omega)
  have r0 := HB.out (p) (by omega)
  have q1 := HC.out (p + 1) (by omega)
  have r1 := HB.out (p + 1) (by omega)
  have q2 := HC.out (p + 2) (by omega)
  have r2 := HB.out (p + 2) (by omega)
  have q3 := HC.out (p + 3) (by omega)
  have r3 := HB.out (p + 3) (by omega)
  have q4 := HC.out (p + 4) (by omega)
  have r4 := HB.out (p + 4) (by omega)
  have q5 := HC.out (p + 5) (by omega)
  have r5 := HB.out (p + 5) (by omega)
  have q6 := HC.out (p + 6) (by omega)
  have r6 := HB.out (p + 6) (by omega)
  have q7 := HC.out (p + 7) (by omega)
  have r7 := HB.out (p + 7) (by omega)
  have q8 := HC.out (p + 8) (by omega)
  have r8 := HB.out (p + 8) (by omega)
  have q9 := HC.out (p + 9) (by omega)
  have r9 := HB.out (p + 9) (by omega)
  have hne2 : ¬ cap = p + 10 + mac := by omega
  have hne3 : ¬ cap = p + 10 := by omega
  have hf : 0 ≤ fud ∧ fud ≤ 65535 := by rw [← H6.out]; omega
  have hh : 0 ≤ hi ∧ hi ≤ 65535 := by rw [← H0.out]; omega
  have hl : 0 ≤ lo ∧ lo ≤ 4294967295 := by rw [← H2.out]; omega
  have ha2 : ∀ w, (Instr.arrayAt 68 (.slice (some ⟨g, p + 10 + mac, none⟩) (n - (p + 10 + mac)) (cap - (p + 10 + mac)))).run Ybad.prog w = .ok (.pointer (some ⟨g, p + 10 + mac, none⟩)) w := fun w => run_arrayAt w 68 5 6 _ _ _ Ybad.underlying68 (by omega)
  have hmc : mac ≤ 65535 := by have := H8.out; omega
  have s0 := HC.out (p + 10 + mac) (by omega)
  have t0 := HB.out (p + 10 + mac) (by omega)
  have s1 := HC.out (p + 10 + mac + 1) (by omega)
  have t1 := HB.out (p + 10 + mac + 1) (by omega)
  have s2 := HC.out (p + 10 + mac + 2) (by omega)
  have t2 := HB.out (p + 10 + mac + 2) (by omega)
  have s3 := HC.out (p + 10 + mac + 3) (by omega)
  have t3 := HB.out (p + 10 + mac + 3) (by omega)
  have s4 := HC.out (p + 10 + mac + 4) (by omega)
  have t4 := HB.out (p + 10 + mac + 4) (by omega)
  have s5 := HC.out (p + 10 + mac + 5) (by omega)
  have t5 := HB.out (p + 10 + mac + 5) (by omega)
  have K0 := hid k0
  have K2 := hid k2
  have K4 := hid k4
  clear k0 k2 k4
  have ho : oth ≤ 65535 := by have := K4.out; omega
  go_enter Ybad.func6, Ybad.ntmps6
  go_wp2
  go_region
  go_wp2
  go_region_held3 (fun w' => Below X.heap.size X w') (repeat (first | with_reducible assumption | with_reducible exact Below.refl _ _ | with_reducible apply Below.drew | with_reducible refine Below.alloc ?_ (by simp <;> omega) _ | with_reducible refine Below.setCell ?_ (by simp) _))
    (first
      | (go_at_call 9; refine (u16_is g (p) 10 10 _ _ hi H0.out _ (by omega) (cell_of (by assumption) hg q0) (cell_of (by assumption) hg q1) r0 r1).mono ?_; rintro e w' ⟨rfl, rfl⟩)
      | (go_at_call 10; refine (u32_is g (p + 2) 8 8 _ _ _ _ lo H2.out _ (by omega) (cell_of (by assumption) hg q2) (cell_of (by assumption) hg q3) (cell_of (by assumption) hg q4) (cell_of (by assumption) hg q5) r2 r3 r4 r5).mono ?_; rintro e w' ⟨rfl, rfl⟩))
  go_wp2
  go_region_held3 (fun w' => Below X.heap.size X w') (repeat (first | with_reducible assumption | with_reducible exact Below.refl _ _ | with_reducible apply Below.drew | with_reducible refine Below.alloc ?_ (by simp <;> omega) _ | with_reducible refine Below.setCell ?_ (by simp) _))
    (first
      | (go_at_call 9; refine (u16_is g (p + 6) 4 4 _ _ fud H6.out _ (by omega) (cell_of (by assumption) hg q6) (cell_of (by assumption) hg q7) r6 r7).mono ?_; rintro e w' ⟨rfl, rfl⟩))
  go_wp2
  go_region_held3 (fun w' => Below X.heap.size X w') (repeat (first | with_reducible assumption | with_reducible exact Below.refl _ _ | with_reducible apply Below.drew | with_reducible refine Below.alloc ?_ (by simp <;> omega) _ | with_reducible refine Below.setCell ?_ (by simp) _))
    (first
      | (go_at_call 9; refine (u16_is g (p + 8) 2 2 _ _ mac H8.out _ (by omega) (cell_of (by assumption) hg q8) (cell_of (by assumption) hg q9) r8 r9).mono ?_; rintro e w' ⟨rfl, rfl⟩))
  go_wp2
  have tok1 : True := trivial
  go_region_held3 (fun w' => Below X.heap.size X w') (repeat (first | with_reducible assumption | with_reducible exact Below.refl _ _ | with_reducible apply Below.drew | with_reducible refine Below.alloc ?_ (by simp <;> omega) _ | with_reducible refine Below.setCell ?_ (by simp) _))
    (first
      | (go_at_call 9; have _t := tok1; refine (u16_is g (p + 10 + mac) 6 6 _ _ idd K0.out _ (by omega) (cell_of (by assumption) hg s0) (cell_of (by assumption) hg s1) t0 t1).mono ?_; rintro e w' ⟨rfl, rfl⟩; clear tok1 _t)
      | (go_at_call 9; refine (u16_is g (p + 10 + mac + 2) 4 4 _ _ rcc K2.out _ (by omega) (cell_of (by assumption) hg s2) (cell_of (by assumption) hg s3) t2 t3).mono ?_; rintro e w' ⟨rfl, rfl⟩))
  go_wp2
  go_region_held3 (fun w' => Below X.heap.size X w') (repeat (first | with_reducible assumption | with_reducible exact Below.refl _ _ | with_reducible apply Below.drew | with_reducible refine Below.alloc ?_ (by simp <;> omega) _ | with_reducible refine Below.setCell ?_ (by simp) _))
    (first
      | (go_at_call 9; refine (u16_is g (p + 10 + mac + 4) 2 2 _ _ oth K4.out _ (by omega) (cell_of (by assumption) hg s4) (cell_of (by assumption) hg s5) t4 t5).mono ?_; rintro e w' ⟨rfl, rfl⟩))
  go_wp2
  go_end0
  refine ⟨rfl, some_int (d_cells (by repeat (first | with_reducible exact Below.refl _ _ | with_reducible apply Below.drew | with_reducible refine Below.alloc ?_ (by simp <;> omega) _ | with_reducible refine Below.setCell ?_ (by simp) _))).1 (by omega), (d_cells (by repeat (first | with_reducible exact Below.refl _ _ | with_reducible apply Below.drew | with_reducible refine Below.alloc ?_ (by simp <;> omega) _ | with_reducible refine Below.setCell ?_ (by simp) _))).2, by repeat (first | with_reducible exact Below.refl _ _ | with_reducible apply Below.drew | with_reducible refine Below.alloc ?_ (by simp <;> omega) _ | with_reducible refine Below.setCell ?_ (by simp) _), (t_cells (by repeat (first | with_reducible exact Below.refl _ _ | with_reducible apply Below.drew | with_reducible refine Below.alloc ?_ (by simp <;> omega) _ | with_reducible refine Below.setCell ?_ (by simp) _))).1, (t_cells (by repeat (first | with_reducible exact Below.refl _ _ | with_reducible apply Below.drew | with_reducible refine Below.alloc ?_ (by simp <;> omega) _ | with_reducible refine Below.setCell ?_ (by simp) _))).2.1, ⟨_, (t_cells (by repeat (first | with_reducible exact Below.refl _ _ | with_reducible apply Below.drew | with_reducible refine Below.alloc ?_ (by simp <;> omega) _ | with_reducible refine Below.setCell ?_ (by simp) _))).2.2.1⟩, (t_cells (by repeat (first | with_reducible exact Below.refl _ _ | with_reducible apply Below.drew | with_reducible refine Below.alloc ?_ (by simp <;> omega) _ | with_reducible refine Below.setCell ?_ (by simp) _))).2.2.2.1, (t_cells (by repeat (first | with_reducible exact Below.refl _ _ | with_reducible apply Below.drew | with_reducible refine Below.alloc ?_ (by simp <;> omega) _ | with_reducible refine Below.setCell ?_ (by simp) _))).2.2.2.2.1, _, _, some_slice (t_cells (by repeat (first | with_reducible exact Below.refl _ _ | with_reducible apply Below.drew | with_reducible refine Below.alloc ?_ (by simp <;> omega) _ | with_reducible refine Below.setCell ?_ (by simp) _))).2.2.2.2.2 (by omega), ?_⟩
  exact .inl (by omega)

end Go.Proofs.YbulkanrqDoor
