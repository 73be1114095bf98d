/-
  THE WALK of LawS1966ARoundTrip.
-/
import Derived.Test.YbulkanrqDoorAsk
namespace Go.Proofs.YbulkanrqDoor
open Go.RowKit

set_option maxRecDepth 100000 in
set_option maxHeartbeats 4000000 in
theorem law_walk (pd hi lo fud : Int) (a4 : Option Addr) (l4 c4 : Nat) (Z4 : Nat → Int) (idd rcc : Int) (a7 : Option Addr) (l7 c7 : Nat) (Z7 : Nat → Int) (a8 : Option Addr) (l8 c8 : Nat) (Z8 : Nat → Int) (cut : Int) (pre : Bool) (w : World)
    (bpd : 0 ≤ pd ∧ pd ≤ 255) (bhi : 0 ≤ hi ∧ hi ≤ 65535) (blo : 0 ≤ lo ∧ lo ≤ 4294967295) (bfud : 0 ≤ fud ∧ fud ≤ 65535) (bid : 0 ≤ idd ∧ idd ≤ 65535) (brc : 0 ≤ rcc ∧ rcc ≤ 65535) (bcut : 0 ≤ cut ∧ cut ≤ 255)
    (h4 : Arg w a4 l4 c4 Z4) (h7 : Arg w a7 l7 c7 Z7) (h8 : Arg w a8 l8 c8 Z8) (m4 : l4 ≤ 1024) (m7 : l7 ≤ 1024) (m8 : l8 ≤ 1024)
    (Te : TypeId) (xe : Value) (h1g : 1 < w.heap.size) (hG : w.cell? ⟨1, 0, none⟩ = some (.iface Te xe)) :
    Calls Ybad.prog 3 #[.int .u8 pd, .int .u16 hi, .int .u32 lo, .int .u16 fud, .slice a4 l4 c4, .int .u16 idd, .int .u16 rcc, .slice a7 l7 c7, .slice a8 l8 c8, .int .u8 cut, .bool pre] w
      fun e w' => e = .returned (.bool true) ∧ Below w.heap.size w w' := by
  obtain ⟨p, hp, hp8⟩ : ∃ p : Nat, pd % 8 = (p : Int) ∧ p < 8 := ⟨(pd % 8).toNat, by omega, by omega⟩
  obtain ⟨i0, hi0, hz0, hz1, hz2⟩ := info_parts Ybad.info5
  obtain ⟨N, hN⟩ : ∃ N, p + 16 + l4 + l7 + l8 = N := ⟨_, rfl⟩
  have HN := hid hN
  have H4 := hid h4
  have H7 := hid h7
  have H8 := hid h8
  have HG := hid hG
  have hNb : N ≤ 4000 := by omega
  have d7 : decide ((1024 : Int) < (l7 : Int)) = false := decide_eq_false (by omega)
  have d8 : decide ((1024 : Int) < (l8 : Int)) = false := decide_eq_false (by omega)
  clear hN h4 h7 h8 hG
  go_enter Ybad.func3, Ybad.ntmps3
  go_wp2_with (at_make; refine wpList_make_own _ rfl _ _ 24 rfl w.heap.size 5 i0 (.int .u8 0) 1 Ybad.underlying24 hi0 hz0 hz1 .i64 .i64 _ N rfl rfl (by have := HN.out; omega) (by rw [hz2]; omega) (by unfold maxLen; omega) (Nat.le_refl _) ?_; intro w1 hown1 hgrow1)
  have hO1 : Own w1 w.heap.size N 0 (pad 0) := hown1
  have hB1 : Below w.heap.size w w1 := (Below.refl _ _).grown hgrow1 (Nat.le_refl _) (fun _ h => by cases h)
  clear hown1 hgrow1
  go_loopw [24, 25] (fun m i wr => ∃ k : Nat, k ≤ p ∧ i = .int .i64 k ∧ m = .slice (some ⟨w.heap.size, 0, none⟩) k N ∧ Own wr w.heap.size N k (pad k) ∧ Below w.heap.size w wr)
    (fun _ i _ => p - (intOf i).toNat)
  case atStart => exact ⟨0, Nat.zero_le _, rfl, rfl, hO1, hB1⟩
  case round =>
    clear hO1 hB1
    obtain ⟨k, hk, rfl, rfl, hO, hB⟩ := hrel
    have HO := hid hO
    have HB := hid hB
    clear hO hB
    by_cases hlt : k < p
    · go_wp2_with (at_builtin; refine wpList_append_fits _ rfl (.tmp 64) (.tmp 68) 24 rfl w.heap.size 5 i0 1 Ybad.underlying24 hi0 hz1 w.heap.size k N _ rfl (World.ownsRow.alloc HO.out _) ⟨wr.heap.size, 0, none⟩ 1 1 [.int .u8 (160 + (k : Int))] rfl rfl (cell_one_new wr _ 5) (one_ints [160 + (k : Int)]) (by have := HN.out; omega) ?_; intro w2 hown2 hgrow2; have hO2 : Own w2 w.heap.size N (k + 1) (pad (k + 1)) := (by unfold Own; rw [pad_succ, List.map_append]; exact hown2); have HB2 := hid (HO.out.below HB.out ((World.grownBy_alloc wr (.cells #[.int .u8 (160 + (k : Int))] 5) (some w.heap.size)).trans hgrow2)); have HO2 := hid hO2; clear hown2 hgrow2 hO2)
      go_roundw
      case rel => exact ⟨k + 1, by omega, by go_num, rfl, HO2.out, HB2.out⟩
      case measure => simp [intOf]; omega
    · obtain rfl : p = k := by omega
      clear hk hlt
      have HO0 := HO
      have HB0 := HB
      clear HO HB
      go_wp2_with fail
      refine (put16_own (w0 := w) (x := hi) bhi (by have := HN.out; omega) HO0.out HB0.out).mono ?_
      rintro e w2 ⟨rfl, hO2, hB2⟩
      have HO2 := hid hO2
      have HB2 := hid hB2
      clear hO2 hB2 HO0 HB0
      go_wp2_with fail
      refine (put16_own (w0 := w) (x := lo / 65536) (by omega) (by have := HN.out; omega) HO2.out HB2.out).mono ?_
      rintro e w3 ⟨rfl, hO3, hB3⟩
      have HO3 := hid hO3
      have HB3 := hid hB3
      clear hO3 hB3 HO2 HB2
      go_wp2_with fail
      refine (put16_own (w0 := w) (x := lo % 65536) (by omega) (by have := HN.out; omega) HO3.out HB3.out).mono ?_
      rintro e w4 ⟨rfl, hO4, hB4⟩
      have HO4 := hid hO4
      have HB4 := hid hB4
      clear hO4 hB4 HO3 HB3
      go_wp2_with fail
      refine (put16_own (w0 := w) (x := fud) bfud (by have := HN.out; omega) HO4.out HB4.out).mono ?_
      rintro e w5 ⟨rfl, hO5, hB5⟩
      have HO5 := hid hO5
      have HB5 := hid hB5
      clear hO5 hB5 HO4 HB4
      go_wp2_with fail
      refine (put16_own (w0 := w) (x := (l4 : Int)) (by omega) (by have := HN.out; omega) HO5.out HB5.out).mono ?_
      rintro e w6 ⟨rfl, hO6, hB6⟩
      have HO6 := hid hO6
      have HB6 := hid hB6
      clear hO6 hB6 HO5 HB5
      go_wp2_with (first | (at_builtin; refine wpList_append_fits_any _ rfl (.tmp 90) (.tmp 91) 24 rfl w.heap.size 5 i0 1 Ybad.underlying24 hi0 hz1 w.heap.size _ N _ rfl HO6.out a4 l4 c4 ((tab l4 Z4).map (Value.int .u8)) rfl (by simp [tab_len]) H4.out.1 (src_cells H4.out HB6.out) (one_ints _) (by have := HN.out; omega) ?_; intro w7 hown7 hgrow7; have hO7 : Own w7 w.heap.size N _ (_ ++ tab l4 Z4) := (by unfold Own; rw [List.map_append]; exact hown7); have HB7 := hid (HO6.out.below HB6.out hgrow7); have HO7 := hid hO7; clear hown7 hgrow7 hO7) | fail)
      clear HO6 HB6
      go_wp2_with fail
      refine (put16_own (w0 := w) (x := idd) bid (by have := HN.out; omega) HO7.out HB7.out).mono ?_
      rintro e w8 ⟨rfl, hO8, hB8⟩
      have HO8 := hid hO8
      have HB8 := hid hB8
      clear hO8 hB8 HO7 HB7
      go_wp2_with fail
      refine (put16_own (w0 := w) (x := rcc) brc (by have := HN.out; omega) HO8.out HB8.out).mono ?_
      rintro e w9 ⟨rfl, hO9, hB9⟩
      have HO9 := hid hO9
      have HB9 := hid hB9
      clear hO9 hB9 HO8 HB8
      go_wp2_with fail
      refine (put16_own (w0 := w) (x := (l7 : Int)) (by omega) (by have := HN.out; omega) HO9.out HB9.out).mono ?_
      rintro e w10 ⟨rfl, hO10, hB10⟩
      have HO10 := hid hO10
      have HB10 := hid hB10
      clear hO10 hB10 HO9 HB9
      obtain ⟨n, hnn, hpn, hnN⟩ : ∃ n : Nat, (N : Int) - cut % ((N : Int) - (p : Int) + 1) = (n : Int) ∧ p ≤ n ∧ n ≤ N := by
        have := HN.out
        have e1 := Int.emod_nonneg cut (show (N : Int) - (p : Int) + 1 ≠ 0 by omega)
        have e2 := Int.emod_lt_of_pos cut (show (0 : Int) < (N : Int) - (p : Int) + 1 by omega)
        exact ⟨((N : Int) - cut % ((N : Int) - (p : Int) + 1)).toNat, by omega, by omega, by omega⟩
      have hpN : p ≤ N := by omega
      have HQ := hid (msgL_eqs p hi lo fud l4 Z4 idd rcc l7 Z7 l8 Z8)
      have HR := hid (msgL_range (p := p) (hi := hi) (lo := lo) (fud := fud) (l4 := l4) (Z4 := Z4) (idd := idd) (rcc := rcc) (l7 := l7) (Z7 := Z7) (l8 := l8) (Z8 := Z8) hp8 bhi blo bfud bid brc m4 m7 H4.out.2.range H7.out.2.range H8.out.2.range)
      cases pre
      · skip
        go_wp2_with (first | (at_builtin; refine wpList_append_fits_any _ rfl (.tmp 104) (.tmp 105) 24 rfl w.heap.size 5 i0 1 Ybad.underlying24 hi0 hz1 w.heap.size _ N _ rfl HO10.out a7 l7 c7 ((tab l7 Z7).map (Value.int .u8)) rfl (by simp [tab_len]) H7.out.1 (src_cells H7.out HB10.out) (one_ints _) (by have := HN.out; omega) ?_; intro w11 hown11 hgrow11; have hO11 : Own w11 w.heap.size N _ (_ ++ tab l7 Z7) := (by unfold Own; rw [List.map_append]; exact hown11); have HB11 := hid (HO10.out.below HB10.out hgrow11); have HO11 := hid hO11; clear hown11 hgrow11 hO11) | (at_builtin; refine wpList_append_fits_any _ rfl (.tmp 107) (.tmp 108) 24 rfl w.heap.size 5 i0 1 Ybad.underlying24 hi0 hz1 w.heap.size _ N _ rfl HO11.out a8 l8 c8 ((tab l8 Z8).map (Value.int .u8)) rfl (by simp [tab_len]) H8.out.1 (src_cells H8.out HB11.out) (one_ints _) (by have := HN.out; omega) ?_; intro w12 hown12 hgrow12; have hO12 : Own w12 w.heap.size N _ (_ ++ tab l8 Z8) := (by unfold Own; rw [List.map_append]; exact hown12); have HB12 := hid (HO11.out.below HB11.out hgrow12); rw [show p + 2 + 2 + 2 + 2 + 2 + l4 + 2 + 2 + 2 + l7 + l8 = N from by have := HN.out; omega] at hO12 ⊢; have HO12 := hid hO12; clear hown12 hgrow12 hO12) | fail)
        have hO := HO12.out
        rw [msgL_eq] at hO
        have HO := hid hO
        have hX : w.heap.size < w12.heap.size := hO.lt
        have hX1 : 1 < w12.heap.size := by omega
        have hGX : w12.cell? ⟨1, 0, none⟩ = some (.iface Te xe) := (HB12.out.cell (p := ⟨1, 0, none⟩) h1g).trans HG.out
        have HGX := hid hGX
        have HCC := hid (fun (i : Nat) (hin : i < n) => hO.cells i (Nat.lt_of_lt_of_le hin hnN))
        have hbb : ∀ i, i < n → 0 ≤ (msgL p hi lo fud l4 Z4 idd rcc l7 Z7 l8 Z8).getD i 0 ∧ (msgL p hi lo fud l4 Z4 idd rcc l7 Z7 l8 Z8).getD i 0 ≤ 255 := fun i hin => by
          have hl := hO.len
          refine HR.out _ ?_
          rw [List.getD_eq_getElem?_getD, List.getElem?_eq_getElem (show i < (msgL p hi lo fud l4 Z4 idd rcc l7 Z7 l8 Z8).length by omega)]
          exact List.getElem_mem _
        have HBB := hid hbb
        clear hO hGX hbb HO12 HO11 HB11 HO10 HB10
        by_cases hs : n < p + 16 + l4 + l7
        · refine (tsig_short w12 w.heap.size n N p _ (.bool false) hnN (by omega) hX HCC.out HBB.out hi lo fud l4 idd rcc l7 HQ.out Te xe hX1 HGX.out hpn hs).mono ?_
          rintro e w13 ⟨rfl, e1, e2, hb13⟩
          have HB13 := hid hb13
          clear hb13
          go_wp2
          go_ret
          exact ⟨rfl, HB12.out.trans (HB13.out.mono (by omega))⟩
        · refine (tsig_full w12 w.heap.size n N p _ (.bool false) hnN (by omega) hX HCC.out HBB.out hi lo fud l4 idd rcc l7 HQ.out (by omega)).mono ?_
          rintro e w13 ⟨rfl, e1, e2, hb13, t0, t1, ⟨c2, t2⟩, t3, t4, a5, c5, t5, h5⟩
          have HB13 := hid hb13
          have HM := hid (mac_bytes hX HCC.out H4.out.2.range (by omega) hb13)
          have HO7 := hid (oth_bytes h5 hX HCC.out H7.out.2.range (by omega) hb13)
          have hb0 : Below w.heap.size w w13 := HB12.out.trans (hb13.mono (by omega))
          have HB0 := hid hb0
          have HM4 := hid (H4.out.2.later (Nat.le_refl _) hb0)
          have HM7 := hid (H7.out.2.later (Nat.le_refl _) hb0)
          clear hb13 h5 hb0 HCC HBB HQ HR
          go_wp2_with fail
          refine (equal_same _ a4 l4 _ _ Z4 _ HM.out HM4.out).mono ?_
          rintro e w14 ⟨rfl, rfl⟩
          go_wp2_with fail
          refine (equal_same _ a7 l7 _ _ Z7 _ HO7.out HM7.out).mono ?_
          rintro e w14 ⟨rfl, rfl⟩
          go_wp2
          go_ret
          exact ⟨rfl, HB0.out⟩
      · skip
        go_wp2_with (first | (at_builtin; refine wpList_append_fits_any _ rfl (.tmp 104) (.tmp 105) 24 rfl w.heap.size 5 i0 1 Ybad.underlying24 hi0 hz1 w.heap.size _ N _ rfl HO10.out a7 l7 c7 ((tab l7 Z7).map (Value.int .u8)) rfl (by simp [tab_len]) H7.out.1 (src_cells H7.out HB10.out) (one_ints _) (by have := HN.out; omega) ?_; intro w11 hown11 hgrow11; have hO11 : Own w11 w.heap.size N _ (_ ++ tab l7 Z7) := (by unfold Own; rw [List.map_append]; exact hown11); have HB11 := hid (HO10.out.below HB10.out hgrow11); have HO11 := hid hO11; clear hown11 hgrow11 hO11) | (at_builtin; refine wpList_append_fits_any _ rfl (.tmp 107) (.tmp 108) 24 rfl w.heap.size 5 i0 1 Ybad.underlying24 hi0 hz1 w.heap.size _ N _ rfl HO11.out a8 l8 c8 ((tab l8 Z8).map (Value.int .u8)) rfl (by simp [tab_len]) H8.out.1 (src_cells H8.out HB11.out) (one_ints _) (by have := HN.out; omega) ?_; intro w12 hown12 hgrow12; have hO12 : Own w12 w.heap.size N _ (_ ++ tab l8 Z8) := (by unfold Own; rw [List.map_append]; exact hown12); have HB12 := hid (HO11.out.below HB11.out hgrow12); rw [show p + 2 + 2 + 2 + 2 + 2 + l4 + 2 + 2 + 2 + l7 + l8 = N from by have := HN.out; omega] at hO12 ⊢; have HO12 := hid hO12; clear hown12 hgrow12 hO12) | (go_at_call 5; go_in))
        refine (tsig_pre_at _ _ _ (by simp) (by simp) _ _ _ _ _ _ _ _).mono ?_
        rintro e w13 ⟨rfl, e1, e2, hb13⟩
        have HB13 := hid hb13
        have hes := eql_same
        clear hb13
        go_wp2
        go_ret
        exact ⟨rfl, ((HB12.out.alloc (Nat.le_of_lt HO12.out.lt) _).trans (HB13.out.mono (by have := HO12.out.lt; simp; omega)))⟩
end Go.Proofs.YbulkanrqDoor
