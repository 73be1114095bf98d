/-
  THE WALK of the model.
-/
import Derived.Test.YbulkanqaParse
namespace Go.Proofs.Ybulkanqa
open Go.RowKit Plain

theorem slot_at (l p : Int) (h : place l = p) (w : World) : Calls Yba.prog 5 #[.int .u8 l] w fun e w' => e = .returned (.int .i64 p) ∧ w' = w := by
  subst h; exact slot_any l w

theorem place_none {l : Int} (h : l ≠ 89 ∧ l ≠ 77 ∧ l ≠ 68 ∧ l ≠ 104 ∧ l ≠ 109 ∧ l ≠ 115) : place l = -1 := by
  unfold place; simp [h]

set_option maxHeartbeats 2000000 in
theorem model_run (b off len cap : Nat) (s : ByteArray) (c l : Nat → Int) (w : World) (hb : b < w.heap.size) (hs : s.size = len) (hm : len ≤ 1024)
    (hc : ∀ i, i < len → w.cell? ⟨b, off + i, none⟩ = some (.int .u8 (c i))) (hcb : ∀ i, i < len → 0 ≤ c i ∧ c i ≤ 255) (hl : ∀ i (h : i < s.size), ((s[i]'h).toNat : Int) = l i)
    (r0 r1 r2 r3 r4 r5 : Int) (ok : Bool) (hR : run wrap64 c l len 0 (0, 0, 0, 0, 0, 0) = ((r0, r1, r2, r3, r4, r5), ok)) :
    Calls Yba.prog 8 #[.slice (some ⟨b, off, none⟩) len cap, .string s] w fun e w' => e = .returned (.tuple #[.agg (six r0 r1 r2 r3 r4 r5), .bool ok]) ∧ Below w.heap.size w w' := by
  have HS : Hid (s.size = len) := hs
  have hs1 : ((len : Int) != (s.size : Int)) = false := by simp; omega
  have HR : Hid (run wrap64 c l len 0 (0, 0, 0, 0, 0, 0) = ((r0, r1, r2, r3, r4, r5), ok)) := hR
  clear hs hR
  go_enter Yba.func8, Yba.ntmps8
  go_wp2
  go_loopw [7] (fun i wr => ∃ k : Nat, ∃ a0 a1 a2 a3 a4 a5 : Int, k ≤ len ∧ i = .int .i64 k ∧ wr = (w.alloc (.cells (six 0 0 0 0 0 0) 31)).alloc (.cells (six a0 a1 a2 a3 a4 a5) 31) ∧
      run wrap64 c l (len - k) k (a0, a1, a2, a3, a4, a5) = ((r0, r1, r2, r3, r4, r5), ok))
    (fun i _ => len - (intOf i).toNat)
  case atStart => exact ⟨0, 0, 0, 0, 0, 0, 0, Nat.zero_le _, rfl, rfl, HR.out⟩
  case round =>
    obtain ⟨k, a0, a1, a2, a3, a4, a5, hk, rfl, rfl, hrun⟩ := hrel
    have HK : Hid (run wrap64 c l (len - k) k (a0, a1, a2, a3, a4, a5) = ((r0, r1, r2, r3, r4, r5), ok)) := hrun
    clear hrun
    by_cases hlt : k < len
    · have hck := hc k hlt
      have hlk := hl k (by rw [HS.out]; exact hlt)
      have hks : (k : Int) < (s.size : Int) := by rw [HS.out]; omega
      have hbk := hcb k hlt
      have HC : Hid (∀ i, i < len → w.cell? ⟨b, off + i, none⟩ = some (.int .u8 (c i))) := hc
      clear hc hl hcb
      by_cases hd : 48 ≤ c k ∧ c k ≤ 57
      · rcases isL_cases (l k) with h | h | h | h | h | h | h
        · have hn := (run_digit wrap64 c l hlt (a0, a1, a2, a3, a4, a5) (by omega) hd.1 hd.2).symm.trans HK.out
          rw [upd0 h] at hn
          have HN := hid hn
          rw [h] at hlk
          clear hn
          go_wp2_with (go_at_call 5; refine (slot_at 89 0 rfl _).mono ?_; rintro e w' ⟨rfl, rfl⟩)
          go_roundw
          case rel => exact ⟨k + 1, _, _, _, _, _, _, by omega, by go_num, rfl, HN.out⟩
          case measure => simp [intOf]; omega
        · have hn := (run_digit wrap64 c l hlt (a0, a1, a2, a3, a4, a5) (by omega) hd.1 hd.2).symm.trans HK.out
          rw [upd1 h] at hn
          have HN := hid hn
          rw [h] at hlk
          clear hn
          go_wp2_with (go_at_call 5; refine (slot_at 77 1 rfl _).mono ?_; rintro e w' ⟨rfl, rfl⟩)
          go_roundw
          case rel => exact ⟨k + 1, _, _, _, _, _, _, by omega, by go_num, rfl, HN.out⟩
          case measure => simp [intOf]; omega
        · have hn := (run_digit wrap64 c l hlt (a0, a1, a2, a3, a4, a5) (by omega) hd.1 hd.2).symm.trans HK.out
          rw [upd2 h] at hn
          have HN := hid hn
          rw [h] at hlk
          clear hn
          go_wp2_with (go_at_call 5; refine (slot_at 68 2 rfl _).mono ?_; rintro e w' ⟨rfl, rfl⟩)
          go_roundw
          case rel => exact ⟨k + 1, _, _, _, _, _, _, by omega, by go_num, rfl, HN.out⟩
          case measure => simp [intOf]; omega
        · have hn := (run_digit wrap64 c l hlt (a0, a1, a2, a3, a4, a5) (by omega) hd.1 hd.2).symm.trans HK.out
          rw [upd3 h] at hn
          have HN := hid hn
          rw [h] at hlk
          clear hn
          go_wp2_with (go_at_call 5; refine (slot_at 104 3 rfl _).mono ?_; rintro e w' ⟨rfl, rfl⟩)
          go_roundw
          case rel => exact ⟨k + 1, _, _, _, _, _, _, by omega, by go_num, rfl, HN.out⟩
          case measure => simp [intOf]; omega
        · have hn := (run_digit wrap64 c l hlt (a0, a1, a2, a3, a4, a5) (by omega) hd.1 hd.2).symm.trans HK.out
          rw [upd4 h] at hn
          have HN := hid hn
          rw [h] at hlk
          clear hn
          go_wp2_with (go_at_call 5; refine (slot_at 109 4 rfl _).mono ?_; rintro e w' ⟨rfl, rfl⟩)
          go_roundw
          case rel => exact ⟨k + 1, _, _, _, _, _, _, by omega, by go_num, rfl, HN.out⟩
          case measure => simp [intOf]; omega
        · have hn := (run_digit wrap64 c l hlt (a0, a1, a2, a3, a4, a5) (by omega) hd.1 hd.2).symm.trans HK.out
          rw [upd5 h] at hn
          have HN := hid hn
          rw [h] at hlk
          clear hn
          go_wp2_with (go_at_call 5; refine (slot_at 115 5 rfl _).mono ?_; rintro e w' ⟨rfl, rfl⟩)
          go_roundw
          case rel => exact ⟨k + 1, _, _, _, _, _, _, by omega, by go_num, rfl, HN.out⟩
          case measure => simp [intOf]; omega
        · skip
          by_cases he : c k = l k
          · have HN := hid ((run_same wrap64 c l hlt (a0, a1, a2, a3, a4, a5) h he).symm.trans HK.out)
            have hq : (c k != l k) = false := by simp [he]
            clear he
            obtain ⟨n0, n1, n2, n3, n4, n5⟩ := h
            go_wp2_with (go_at_call 5; refine (slot_at (l k) (-1) (place_none ⟨n0, n1, n2, n3, n4, n5⟩) _).mono ?_; rintro e w' ⟨rfl, rfl⟩)
            go_roundw
            case rel => exact ⟨k + 1, _, _, _, _, _, _, by omega, by go_num, rfl, HN.out⟩
            case measure => simp [intOf]; omega
          · have hn := (run_other wrap64 c l hlt (a0, a1, a2, a3, a4, a5) h he).symm.trans HK.out
            simp only [Prod.mk.injEq] at hn
            obtain ⟨⟨rfl, rfl, rfl, rfl, rfl, rfl⟩, rfl⟩ := hn
            have hq : (c k != l k) = true := by simp [he]
            clear he
            obtain ⟨n0, n1, n2, n3, n4, n5⟩ := h
            go_wp2_with (go_at_call 5; refine (slot_at (l k) (-1) (place_none ⟨n0, n1, n2, n3, n4, n5⟩) _).mono ?_; rintro e w' ⟨rfl, rfl⟩)
            exact bodyPost_ret (v := .tuple #[.agg (six a0 a1 a2 a3 a4 a5), .bool false]) (by simp [results, Yba.results8, go_sem]) rfl ⟨rfl, by repeat (first | exact Below.refl _ _ | exact Below.alloc (by first | exact Below.refl _ _ | exact (Below.refl _ _).alloc (Nat.le_refl _) _) (by simp) _)⟩
      · rcases isL_cases (l k) with h | h | h | h | h | h | h
        rotate_right
        · skip
          by_cases he : c k = l k
          · have HN := hid ((run_same wrap64 c l hlt (a0, a1, a2, a3, a4, a5) h he).symm.trans HK.out)
            have hq : (c k != l k) = false := by simp [he]
            clear he
            obtain ⟨n0, n1, n2, n3, n4, n5⟩ := h
            go_wp2_with (go_at_call 5; refine (slot_at (l k) (-1) (place_none ⟨n0, n1, n2, n3, n4, n5⟩) _).mono ?_; rintro e w' ⟨rfl, rfl⟩)
            go_roundw
            case rel => exact ⟨k + 1, _, _, _, _, _, _, by omega, by go_num, rfl, HN.out⟩
            case measure => simp [intOf]; omega
          · have hn := (run_other wrap64 c l hlt (a0, a1, a2, a3, a4, a5) h he).symm.trans HK.out
            simp only [Prod.mk.injEq] at hn
            obtain ⟨⟨rfl, rfl, rfl, rfl, rfl, rfl⟩, rfl⟩ := hn
            have hq : (c k != l k) = true := by simp [he]
            clear he
            obtain ⟨n0, n1, n2, n3, n4, n5⟩ := h
            go_wp2_with (go_at_call 5; refine (slot_at (l k) (-1) (place_none ⟨n0, n1, n2, n3, n4, n5⟩) _).mono ?_; rintro e w' ⟨rfl, rfl⟩)
            exact bodyPost_ret (v := .tuple #[.agg (six a0 a1 a2 a3 a4 a5), .bool false]) (by simp [results, Yba.results8, go_sem]) rfl ⟨rfl, by repeat (first | exact Below.refl _ _ | exact Below.alloc (by first | exact Below.refl _ _ | exact (Below.refl _ _).alloc (Nat.le_refl _) _) (by simp) _)⟩
        all_goals
          have hn := (run_nodigit wrap64 c l hlt (a0, a1, a2, a3, a4, a5) (by omega) hd).symm.trans HK.out
          simp only [Prod.mk.injEq] at hn
          obtain ⟨⟨rfl, rfl, rfl, rfl, rfl, rfl⟩, rfl⟩ := hn
          rw [h] at hlk
          rcases (by omega : c k < 48 ∨ (48 ≤ c k ∧ 57 < c k)) with h8 | ⟨h8, h9⟩
          · go_wp2_with (go_at_call 5; refine (slot_at _ _ rfl _).mono ?_; rintro e w' ⟨rfl, rfl⟩)
            exact bodyPost_ret (v := .tuple #[.agg (six a0 a1 a2 a3 a4 a5), .bool false]) (by simp [results, Yba.results8, go_sem]) rfl ⟨rfl, by repeat (first | exact Below.refl _ _ | exact Below.alloc (by first | exact Below.refl _ _ | exact (Below.refl _ _).alloc (Nat.le_refl _) _) (by simp) _)⟩
          · have h10 : decide (c k ≤ 57) = false := decide_eq_false (by omega)
            go_wp2_with (go_at_call 5; refine (slot_at _ _ rfl _).mono ?_; rintro e w' ⟨rfl, rfl⟩)
            exact bodyPost_ret (v := .tuple #[.agg (six a0 a1 a2 a3 a4 a5), .bool false]) (by simp [results, Yba.results8, go_sem]) rfl ⟨rfl, by repeat (first | exact Below.refl _ _ | exact Below.alloc (by first | exact Below.refl _ _ | exact (Below.refl _ _).alloc (Nat.le_refl _) _) (by simp) _)⟩
    · have hn := (run_end wrap64 c l hlt (a0, a1, a2, a3, a4, a5)).symm.trans HK.out
      simp only [Prod.mk.injEq] at hn
      obtain ⟨⟨rfl, rfl, rfl, rfl, rfl, rfl⟩, rfl⟩ := hn
      go_wp2
      exact bodyPost_ret (v := .tuple #[.agg (six a0 a1 a2 a3 a4 a5), .bool true]) (by simp [results, Yba.results8, go_sem]) rfl ⟨rfl, by repeat (first | exact Below.refl _ _ | exact Below.alloc (by first | exact Below.refl _ _ | exact (Below.refl _ _).alloc (Nat.le_refl _) _) (by simp) _)⟩
end Go.Proofs.Ybulkanqa
