/-
  THE WALK of LawS1966BHeader.
-/
import Derived.Test.YbulkanrqFmtNew
import Derived.Laws.CopyOwn
import Derived.Laws.OwnMore
import Derived.Deep.OwnRows
import Derived.LaidEqlPtr
namespace Go.Proofs.YbulkanrqFmt
open Go.RowKit

/-- A slice of n bytes that lies in w. -/
def Bytes (w : World) (a : Option Addr) (n : Nat) (Z : Nat → Int) : Prop :=
  n = 0 ∨ ∃ b off, a = some ⟨b, off, none⟩ ∧ b < w.heap.size ∧ ∀ i, i < n → w.cell? ⟨b, off + i, none⟩ = some (.int .u8 (Z i)) ∧ 0 ≤ Z i ∧ Z i ≤ 255

def hv (c : Nat → Int) : List Value := (List.range 12).map fun i => .int .u8 (c i)
def tv (n : Nat) (Z : Nat → Int) : List Value := (List.range n).map fun i => .int .u8 (Z i)
theorem len_hv (c : Nat → Int) : (hv c).length = 12 := by simp [hv]
theorem len_tv (n : Nat) (Z : Nat → Int) : (tv n Z).length = n := by simp [tv]
theorem get_hv (c : Nat → Int) (i : Nat) (hi : i < 12) : (hv c)[i]? = some (.int .u8 (c i)) := by simp [hv, hi]
theorem get_tv (n : Nat) (Z : Nat → Int) (i : Nat) (hi : i < n) : (tv n Z)[i]? = some (.int .u8 (Z i)) := by simp [tv, hi]
theorem one_hv (c : Nat → Int) : ∀ v ∈ hv c, v.oneCell' = true := by
  intro v h
  obtain ⟨i, _, rfl⟩ := List.mem_map.1 h
  rfl
theorem one_tv (n : Nat) (Z : Nat → Int) : ∀ v ∈ tv n Z, v.oneCell' = true := by
  intro v h
  obtain ⟨i, _, rfl⟩ := List.mem_map.1 h
  rfl
theorem Ybaf.info5 : (Ybaf.prog.info? 5).map (fun i => (i.zero, i.size, i.bytes)) = some (some (.int .u8 0), 1, 1) := by kernel_rfl
theorem Ybaf.size5 : (Ybaf.prog.info? 5).map (·.size) = some 1 := by kernel_rfl

theorem make_run (n N : Nat) (R : List Value) (hR : R = List.replicate N (.int .u8 0)) (hN : N = 12 + n) (hn : n ≤ 1024) (w : World) : (Instr.makeSlice 22 (.int .i64 (12 + (n : Int))) (.int .i64 (12 + (n : Int)))).run Ybaf.prog w = .ok (.slice (some ⟨w.heap.size, 0, none⟩) N N) (w.alloc (.cells R.toArray 5)) := by
  subst hR
  have h := run_make_row' (P := Ybaf.prog) 22 5 (.int .u8 0) 1 Ybaf.underlying22 Ybaf.info5 rfl .i64 .i64 N (by omega) (by omega) w
  have e : madeCells #[Value.int .u8 0] N = (List.replicate N (.int .u8 0)).toArray := by
    rw [← toList_madeCells_one]
  rw [e, show (N : Int) = 12 + (n : Int) by omega] at h
  exact h
theorem new_row (w : World) (L : List Value) (t : TypeId) : (w.alloc (.cells L.toArray t)).heap[w.heap.size]? = some (.cells L.toArray t (0, 0)) := by
  show (w.heap.push (.cells L.toArray t))[w.heap.size]? = _
  rw [Array.getElem?_push_size]
theorem cell_row {w : World} {g : Nat} {L : List Value} {t : TypeId} {f : Nat × Nat} (h : w.heap[g]? = some (.cells L.toArray t f)) (i : Nat) (v : Value) (hi : L[i]? = some v) : w.cell? ⟨g, i, none⟩ = some v := by
  simp only [World.cell?, h]
  simpa using hi
theorem add_eq (b o j : Nat) : (⟨b, o, none⟩ : Addr).add j = ⟨b, o + j, none⟩ := by
  unfold Addr.add
  split
  · subst_vars; rfl
  · rfl
theorem cut_run (g N : Nat) (h : 12 ≤ N) : ∃ dp, (∀ w, (Instr.slice 22 (.slice (some ⟨g, 0, none⟩) N N) (some (.int .i64 12)) none none).run Ybaf.prog w = .ok (.slice dp (N - 12) (N - 12)) w) ∧ (¬ N = 12 → dp = some ⟨g, 12, none⟩) := by
  refine ⟨if N = 12 then some ⟨g, 0, none⟩ else some ⟨g, 12, none⟩, fun w => ?_, fun h => if_neg h⟩
  have he : Ybaf.prog.elem 22 = 5 := by kernel_rfl
  have hs : (sizeOf 5).run Ybaf.prog w = .ok 1 w := by
    simp [sizeOf]
    rfl
  rw [run_slice_l (P := Ybaf.prog) w 22 _ _ _ (by rw [he]; exact Ybaf.underlying22) .i64 12 (by omega) (by omega), he, hs]
  simp [sliced, Addr.add]
theorem some_int {W : World} {a : Addr} {k : IntKind} {x y : Int} (h : W.cell? a = some (.int k x)) (e : x = y) : W.cell? a = some (.int k y) := by rw [h, e]
theorem two_hi {c : Nat → Int} (r3 : 0 ≤ c 3 ∧ c 3 ≤ 255) : two c 2 / 2048 % 16 = c 2 / 8 % 16 := by
  show (c 2 * 256 + c 3) / 2048 % 16 = _
  omega
theorem two_lo {c : Nat → Int} : two c 2 % 16 = c 3 % 16 := by
  show (c 2 * 256 + c 3) % 16 = _
  omega
theorem ends_cell (c : Nat → Int) (Z : Nat → Value) (g N : Nat) {k : Nat} (hk : k < 4) : some (cellsF c Z g N N (5 + k)) = some (.int .i64 (sums c k + two c (4 + 2 * k))) := by
  have e : cellsF c Z g N N (5 + k) = .int .i64 (sums c (k + 1)) := by
    unfold cellsF cellsW
    rw [if_neg (by omega), if_neg (by omega), if_neg (by omega), if_neg (by omega), if_neg (by omega), if_neg (by omega), if_pos (by omega), show 5 + k - 4 = k + 1 by omega]
  rw [e]
  rfl
theorem tail_src {w w2 : World} {o : Obj} {a : Option Addr} {n : Nat} {Z : Nat → Int} (hB : Bytes w a n Z) (hb : Below (w.heap.size + 1) (w.alloc o) w2) (hn : 0 < n) : ∃ ad, a = some ad ∧ ∀ j v, (tv n Z)[j]? = some v → w2.cell? (ad.add j) = some v := by
  rcases hB with h | ⟨b, off, rfl, h1, h2⟩
  · omega
  · refine ⟨_, rfl, fun j v hj => ?_⟩
    have hlt : j < n := by
      have := (List.getElem?_eq_some_iff.1 hj).1
      rwa [len_tv] at this
    rw [get_tv n Z j hlt] at hj
    rw [add_eq, ← hj]
    exact cell_of hb (by omega) (cell_of ((Below.refl w.heap.size w).alloc (Nat.le_refl _) o) h1 (h2 j hlt).1)
/-- The row that the two copies leave. -/
theorem row_head (N n : Nat) (c Z : Nat → Int) (i : Nat) (hi : i < 12) : (splice (splice (List.replicate N (Value.int .u8 0)) 0 (hv c)) 12 (tv n Z))[i]? = some (.int .u8 (c i)) := by
  unfold splice
  rw [len_hv]
  rw [List.getElem?_append_left (by simp [len_hv]; omega), List.getElem?_take_of_lt hi, List.take_zero, List.nil_append, List.getElem?_append_left (by rw [len_hv]; exact hi)]
  exact get_hv c i hi

theorem run_neq_same (w : World) (g : Nat) : (binOp .neq 52 (.pointer (some ⟨g, 0, none⟩)) (.pointer (some ⟨g, 0, none⟩))).run Ybaf.prog w = .ok (.bool false) w := by
  obtain ⟨i0, hi0, _⟩ := info_parts Ybaf.info5
  have h : ∀ d : Nat, (Op.equalIn (d + 1) 52 (.pointer (some ⟨g, 0, none⟩)) (.pointer (some ⟨g, 0, none⟩))).run Ybaf.prog w = .ok true w := fun d => by
    simp [Op.equalIn, run_underlying Ybaf.underlying52, sizeOf, typeInfo, hi0, run_sameAddr_same]
  simp only [binOp]
  simp [Op.equal, Op.maxDepth, h 9999]
/-- The same memory. -/
def Same (u v : World) : Prop := (∀ x, v.cell? x = u.cell? x) ∧ ∀ B w0, Below B w0 u → Below B w0 v
theorem Same.refl (u : World) : Same u u := ⟨fun _ => rfl, fun _ _ h => h⟩
theorem Same.drewN {u v : World} {n : Nat} (h : Same u v) : Same u (v.drewN n) := ⟨fun x => h.1 x, fun B w0 hb => (h.2 B w0 hb).trans ⟨rfl, rfl, rfl, Nat.le_refl _, fun _ _ => rfl⟩⟩
theorem Same.drew {u v : World} (h : Same u v) : Same u v.drew := ⟨fun x => h.1 x, fun B w0 hb => (h.2 B w0 hb).drew⟩
theorem zz16i (g n cap : Nat) (i : Nat) (j : Int) (hj : j = (i : Int)) (c : Nat → Int) (w : World) (hn : i + 1 < n) (hN : n < 100000) (h0 : w.cell? ⟨g, i, none⟩ = some (.int .u8 (c i))) (h1 : w.cell? ⟨g, i + 1, none⟩ = some (.int .u8 (c (i + 1))))
    (b0 : 0 ≤ c i ∧ c i ≤ 255) (b1 : 0 ≤ c (i + 1) ∧ c (i + 1) ≤ 255) :
    Calls Ybaf.prog 8 #[.slice (some ⟨g, 0, none⟩) n cap, .int .i64 j] w fun e w' => e = .returned (.int .i64 (two c i)) ∧ w.drew = w' := by
  subst hj
  exact zz16 g n cap i _ _ (two c i) rfl w hn hN h0 h1 b0 b1
theorem zz16q (g n cap : Nat) (i : Nat) (c : Nat → Int) (w : World) (m : Nat) (hn : i + 1 < n) (hN : n < 100000) (h0 : w.cell? ⟨g, i, none⟩ = some (.int .u8 (c i))) (h1 : w.cell? ⟨g, i + 1, none⟩ = some (.int .u8 (c (i + 1))))
    (b0 : 0 ≤ c i ∧ c i ≤ 255) (b1 : 0 ≤ c (i + 1) ∧ c (i + 1) ≤ 255) :
    Calls Ybaf.prog 8 #[.slice (some ⟨g, 0, none⟩) n cap, .int .i64 i] (w.drewN m) fun e w' => e = .returned (.int .i64 (two c i)) ∧ ∃ m', w' = w.drewN m' :=
  (zz16 g n cap i _ _ (two c i) rfl (w.drewN m) hn hN h0 h1 b0 b1).mono fun _ _ h => ⟨h.1, m + 1, h.2.symm⟩

set_option maxRecDepth 100000
set_option maxHeartbeats 1000000 in
theorem header_walk (w : World) (c : Nat → Int) (a : Option Addr) (n cap : Nat) (Z : Nat → Int) (hn : n ≤ 1024) (hb : ∀ i, i < 12 → 0 ≤ c i ∧ c i ≤ 255) (hB : Bytes w a n Z) :
    Calls Ybaf.prog 4 #[.agg (hv c).toArray, .slice a n cap] w fun e w' => e = .returned (.bool true) ∧ Below w.heap.size w w' := by
  have HB := hid hb
  have HT := hid hB
  clear hb hB
  obtain ⟨i0, hi0, hz0, hz1, hz2⟩ := info_parts Ybaf.info5
  obtain ⟨N, hN⟩ : ∃ N : Nat, N = 12 + n := ⟨_, rfl⟩
  have HN := hid hN
  clear hN
  go_enter Ybaf.func4, Ybaf.ntmps4
  obtain ⟨R, hR⟩ : ∃ R : List Value, R = List.replicate N (.int .u8 0) := ⟨_, rfl⟩
  have hlR : R.length = N := by rw [hR, List.length_replicate]
  have hm := make_run n N R hR HN.out hn
  have HRR := hid hR
  clear hR
  have hb1 : Below (w.heap.size + 1) (w.alloc (.cells (hv c).toArray 30)) ((w.alloc (.cells (hv c).toArray 30)).alloc (.cells R.toArray 5)) := (Below.refl _ _).alloc (by simp) _
  have hr1 : ((w.alloc (.cells (hv c).toArray 30)).alloc (.cells R.toArray 5)).heap[w.heap.size + 1]? = some (.cells R.toArray 5 (0, 0)) := by
    have := new_row (w.alloc (.cells (hv c).toArray 30)) R 5
    simpa using this
  have hs1 : ∀ j v, (hv c)[j]? = some v → ((w.alloc (.cells (hv c).toArray 30)).alloc (.cells R.toArray 5)).cell? ((⟨w.heap.size, 0, none⟩ : Addr).add j) = some v := by
    intro j v hj
    have h1 := cell_row (new_row w (hv c) 30) j v hj
    have h2 := cell_of hb1 (g := w.heap.size) (i := j) (by omega) h1
    rw [add_eq, Nat.zero_add]
    exact h2
  have HL1 : Hid ((hv c).length = Nat.min 12 N) := hid ((len_hv c).trans (Nat.min_eq_left (by have := HN.out; omega)).symm)
  have HL2 : Hid ((tv n Z).length = Nat.min n (N - 12)) := hid ((len_tv n Z).trans (by have := HN.out; rw [show N - 12 = n by omega]; exact (Nat.min_self n).symm))
  have HB1 := hid hb1
  have HR1 := hid hr1
  have HS1 := hid hs1
  clear hb1 hr1 hs1
  have h12 : 12 ≤ N := by have := HN.out; omega
  have hN' : N < 100000 := by have := HN.out; omega
  obtain ⟨dp, hcut, hdp⟩ := cut_run (w.heap.size + 1) N h12
  have HDP := hid hdp
  clear hdp
  have hlS : (splice R 0 (hv c)).length = N := by rw [length_splice _ _ _ (by rw [len_hv, hlR]; omega), hlR]
  obtain ⟨R2, hR2⟩ : ∃ R2 : List Value, R2 = splice R 0 (hv c) := ⟨_, rfl⟩
  rw [← hR2] at hlS
  have HRR2 := hid hR2
  clear hR2
  go_wp2_with (first
    | (refine wpList_copy_splice rfl (.tmp 18) (.tmp 19) 22 22 rfl 5 Ybaf.underlying22 Ybaf.size5 _ _ _ _ _ _ rfl rfl (w.heap.size + 1) 0 _ 5 HR1.out (hv c) HL1.out (fun _ => ⟨rfl, _, rfl, HS1.out⟩) (by rw [len_hv, hlR]; have := HN.out; omega) (one_hv c) (w.heap.size + 1) _ HB1.out (Nat.le_refl _) ?_; intro w2 HR2 hb2; have HB2 := hid hb2; rw [← HRR2.out] at HR2; clear hb2 HR1 HB1 HS1 HL1)
    | (refine wpList_copy_splice rfl (.tmp 22) (.tmp 23) 22 22 rfl 5 Ybaf.underlying22 Ybaf.size5 _ _ _ _ _ _ rfl rfl (w.heap.size + 1) 12 _ 5 HR2.out (tv n Z) HL2.out (fun hpos => ⟨HDP.out (by have := HN.out; rw [len_tv] at hpos; omega), tail_src HT.out HB2.out (by rw [len_tv] at hpos; exact hpos)⟩) (by rw [len_tv, hlS]; have := HN.out; omega) (one_tv n Z) (w.heap.size + 1) _ HB2.out (Nat.le_refl _) ?_; intro w3 HR3 hb3; have HB3 := hid hb3; clear hb3 HR2 HB2 HL2))
  have hm3 : ∀ i, i < 12 → w3.cell? ⟨w.heap.size + 1, i, none⟩ = some (.int .u8 (c i)) := fun i hi => cell_row HR3.out i _ (by rw [HRR2.out, HRR.out]; exact row_head N n c Z i hi)
  have hh3 : ∀ i, i < 12 → w3.cell? ⟨w.heap.size, i, none⟩ = some (.int .u8 (c i)) := fun i hi => cell_of HB3.out (by omega) (cell_row (new_row w (hv c) 30) i _ (get_hv c i hi))
  have hg3 : w.heap.size + 1 < w3.heap.size := block_lt_of_cell (hm3 0 (by omega))
  have hw3 : Below w.heap.size w w3 := ((Below.refl w.heap.size w).alloc (Nat.le_refl _) _).trans (HB3.out.mono (Nat.le_succ _))
  refine (new_ok w3 (w.heap.size + 1) N N c h12 hN' hg3 hm3 HB.out).mono ?_
  rintro e w4 ⟨rfl, Z', hZ, hF⟩
  have HM := hid (fun i (hi : i < 12) => cell_of hF.below hg3 (hm3 i hi))
  have HH := hid (fun i (hi : i < 12) => cell_of hF.below (Nat.lt_of_succ_lt hg3) (hh3 i hi))
  have HW := hid (hw3.trans (hF.below.mono (by omega)))
  obtain ⟨g, hg⟩ : ∃ g, g = w.heap.size + 1 := ⟨_, rfl⟩
  obtain ⟨p, hp⟩ : ∃ p, p = w3.heap.size := ⟨_, rfl⟩
  have HP := hid (fun i (hi : i < 87) => hF.cell i hi)
  have hgp : g < p := by omega
  have hpw : p < w4.heap.size := by rw [hp]; exact hF.size
  rw [← hg] at HM
  rw [← hp, ← hg] at HP
  rw [← hg, ← hp]
  have HG := hid hg
  have HPP := hid hp
  clear hg hp hF hm3 hh3 HR3 HB3 hm hcut HDP
  have q0 := HM.out 0 (by omega)
  have r0 := HB.out 0 (by omega)
  have q1 := HM.out 1 (by omega)
  have r1 := HB.out 1 (by omega)
  have q2 := HM.out 2 (by omega)
  have r2 := HB.out 2 (by omega)
  have q3 := HM.out 3 (by omega)
  have r3 := HB.out 3 (by omega)
  have b0 : w4.cell? ⟨p, 0, none⟩ = some (.int .u16 (two c 0)) := HP.out 0 (by omega)
  have b1 : w4.cell? ⟨p, 1, none⟩ = some (.int .u8 (c 2 / 8 % 16)) := some_int (HP.out 1 (by omega)) (two_hi r3)
  have b2 : w4.cell? ⟨p, 2, none⟩ = some (.int .u16 (c 3 % 16)) := some_int (HP.out 2 (by omega)) two_lo
  have b3 : w4.cell? ⟨p, 3, none⟩ = some (.int .u16 (bits .and .u16 (two c 2) 34736)) := HP.out 3 (by omega)
  have t0 := two_range HB.out (i := 0) (by omega)
  have t2 := two_range HB.out (i := 2) (by omega)
  have t3 := flags_range t2
  have x1 : bits .and .i64 (c 2 / 8) 15 = c 2 / 8 % 16 := and15_64 (by omega)
  have x2 : bits .and .i64 (c 3) 15 = c 3 % 16 := and15_64 (by omega)
  have x3 : bits .and .i64 (two c 2) 34736 = bits .and .u16 (two c 2) 34736 := flags_eq t2
  have k2 : (2 : Int) < (N : Int) := by omega
  have k3 : (3 : Int) < (N : Int) := by omega
  have hwb : Below w4.heap.size w4 w4 := Below.refl _ _
  have hgw : g < w4.heap.size := by omega
  go_wp2
  go_quiet (first
      | (go_at_call 8; exact zz16q g N N 0 c _ _ (by omega) (by omega) q0 q1 r0 r1))
  go_wp2
  go_quiet (fail)
  go_wp2
  go_quiet (fail)
  go_wp2
  generalize hw5 : World.drewN _ _ = w5
  have q2' : w5.cell? ⟨g, 2, none⟩ = some (.int .u8 (c 2)) := by rw [← hw5]; exact q2
  have q3' : w5.cell? ⟨g, 2 + 1, none⟩ = some (.int .u8 (c (2 + 1))) := by rw [← hw5]; exact q3
  have b3' : w5.cell? ⟨p, 3, none⟩ = some (.int .u16 (bits .and .u16 (two c 2) 34736)) := by rw [← hw5]; exact b3
  have E5 : Hid (Same w4 w5) := by rw [← hw5]; exact hid (by repeat (first | exact Same.refl _ | apply Same.drewN))
  clear hw5
  clear q0 q1 q2 q3 b0 b1 b2 b3 k2 k3
  go_quiet (first
      | (go_at_call 8; exact zz16q g N N 2 c w5 _ (by omega) (by omega) q2' q3' r2 r3))
  go_wp2
  clear q2' q3' b3' r0 r1 r2 r3 x1 x2 x3 t0 t2 t3
  go_loopw [8, 9] (fun s i wr => ∃ k : Nat, k ≤ 4 ∧ i = .int .i64 k ∧ s = .int .i64 (sums c k) ∧ Same w4 wr) (fun _ i _ => 4 - (intOf i).toNat)
  case atStart => exact ⟨0, by omega, rfl, rfl, E5.out.drewN⟩
  case round =>
    obtain ⟨k, hk, rfl, rfl, hS⟩ := hrel
    have HS := hid hS
    clear hS
    by_cases hlt : k < 4
    · have qa := (HS.out.1 _).trans (HM.out (4 + 2 * k) (by omega))
      have ra := HB.out (4 + 2 * k) (by omega)
      have qb := (HS.out.1 _).trans (HM.out (4 + 2 * k + 1) (by omega))
      have rb := HB.out (4 + 2 * k + 1) (by omega)
      have s5 : wr.cell? ⟨p, 5 + k, none⟩ = some (.int .i64 (sums c k + two c (4 + 2 * k))) := (HS.out.1 _).trans ((HP.out (5 + k) (by omega)).trans (ends_cell c Z' g N hlt))
      have u1 := two_range HB.out (i := 4 + 2 * k) (by omega)
      have u2 := sums_range HB.out k hk
      have hka : (4 : Int) + 2 * (k : Int) = ((4 + 2 * k : Nat) : Int) := by omega
      have HKA := hid hka
      clear hka
      go_wp2_with (go_at_call 8; refine (zz16i g N N (4 + 2 * k) _ HKA.out c _ (by omega) (by omega) qa qb ra rb).mono ?_; rintro e w'' ⟨rfl, rfl⟩)
      go_roundw
      case rel => exact ⟨k + 1, by omega, by go_num, rfl, HS.out.drew⟩
      case measure => simp [intOf]; omega
    · obtain rfl : k = 4 := by omega
      clear hk hlt
      have b9 : wr.cell? ⟨p, 9, none⟩ = some (.int .i64 0) := (HS.out.1 _).trans ((HP.out 9 (by omega)).trans (congrArg some hZ.next))
      have b11 : wr.cell? ⟨p, 11, none⟩ = some (.int .u8 0) := (HS.out.1 _).trans ((HP.out 11 (by omega)).trans (congrArg some hZ.e0))
      have b12 : wr.cell? ⟨p, 12, none⟩ = some (.int .i64 0) := (HS.out.1 _).trans ((HP.out 12 (by omega)).trans (congrArg some hZ.e1))
      have b13 : wr.cell? ⟨p, 13, none⟩ = some (.int .i64 0) := (HS.out.1 _).trans ((HP.out 13 (by omega)).trans (congrArg some hZ.e2))
      have b14 : wr.cell? ⟨p, 14, none⟩ = some (.int .u16 0) := (HS.out.1 _).trans ((HP.out 14 (by omega)).trans (congrArg some hZ.e3))
      have b15 : wr.cell? ⟨p, 15, none⟩ = some (.int .u16 0) := (HS.out.1 _).trans ((HP.out 15 (by omega)).trans (congrArg some hZ.e4))
      have b16 : wr.cell? ⟨p, 16, none⟩ = some (.int .u32 0) := (HS.out.1 _).trans ((HP.out 16 (by omega)).trans (congrArg some hZ.e5))
      have b17 : wr.cell? ⟨p, 17, none⟩ = some (.int .u16 0) := (HS.out.1 _).trans ((HP.out 17 (by omega)).trans (congrArg some hZ.e6))
      have b18 : wr.cell? ⟨p, 18, none⟩ = some (.int .i64 0) := (HS.out.1 _).trans ((HP.out 18 (by omega)).trans (congrArg some hZ.e7))
      have b19 : wr.cell? ⟨p, 19, none⟩ = some (.int .i64 0) := (HS.out.1 _).trans ((HP.out 19 (by omega)).trans (congrArg some hZ.e8))
      have b84 : wr.cell? ⟨p, 84, none⟩ = some (.pointer none) := (HS.out.1 _).trans ((HP.out 84 (by omega)).trans (congrArg some hZ.table))
      have b85 : wr.cell? ⟨p, 85, none⟩ = some (.int .i64 0) := (HS.out.1 _).trans ((HP.out 85 (by omega)).trans (congrArg some hZ.spent))
      have b86 : wr.cell? ⟨p, 86, none⟩ = some (.nilIface) := (HS.out.1 _).trans ((HP.out 86 (by omega)).trans (congrArg some hZ.err))
      have b10 : wr.cell? ⟨p, 10, none⟩ = some (.int .i64 12) := (HS.out.1 _).trans (HP.out 10 (by omega))
      have b4 : wr.cell? ⟨p, 4, none⟩ = some (.slice (some ⟨g, 0, none⟩) N N) := (HS.out.1 _).trans (HP.out 4 (by omega))
      go_wp2
      have k0 : (0 : Int) < (N : Int) := by omega
      have hpc := fun w' => run_neq_same w' g
      go_quiet (fail)
      go_wp2
      go_loopw [10] (fun i wx => ∃ k : Nat, k ≤ 12 ∧ i = .int .i64 k ∧ Same w4 wx) (fun i _ => 12 - (intOf i).toNat)
      case atStart => exact ⟨0, by omega, rfl, HS.out.drewN⟩
      case round =>
        clear b9 b10 b11 b12 b13 b14 b15 b16 b17 b18 b19 b84 b85 b86 b4
        clear hpc
        obtain ⟨k, hk, rfl, hX⟩ := hrel
        have HX := hid hX
        clear hX
        by_cases hlt : k < 12
        · have ma := (HX.out.1 _).trans (HM.out k hlt)
          have mb := (HX.out.1 _).trans (HH.out k hlt)
          have kN : (k : Int) < (N : Int) := by omega
          have k12 : (k : Int) < 12 := by omega
          go_wp2
          go_quiet (fail)
          go_wp2
          go_roundw
          case rel => exact ⟨k + 1, by omega, by go_num, HX.out.drewN⟩
          case measure => simp [intOf]; omega
        · go_wp2
          go_ret
          exact ⟨rfl, HX.out.2 _ _ HW.out⟩

theorem header_big (w : World) (c : Nat → Int) (a : Option Addr) (n cap : Nat) (hn : 1024 < n) :
    Calls Ybaf.prog 4 #[.agg (hv c).toArray, .slice a n cap] w fun e w' => e = .returned (.bool true) ∧ Below w.heap.size w w' := by
  have hd : (1024 : Int) < (n : Int) := by omega
  go_enter Ybaf.func4, Ybaf.ntmps4
  go_wp2
  go_ret
  exact ⟨rfl, (Below.refl _ _).alloc (Nat.le_refl _) _⟩

theorem header_all (w : World) (c : Nat → Int) (a : Option Addr) (n cap : Nat) (Z : Nat → Int) (hb : ∀ i, i < 12 → 0 ≤ c i ∧ c i ≤ 255) (hB : Bytes w a n Z) :
    Calls Ybaf.prog 4 #[.agg (hv c).toArray, .slice a n cap] w fun e w' => e = .returned (.bool true) ∧ Below w.heap.size w w' := by
  rcases Nat.lt_or_ge 1024 n with h | h
  · exact header_big w c a n cap h
  · exact header_walk w c a n cap Z h hb hB
end Go.Proofs.YbulkanrqFmt
