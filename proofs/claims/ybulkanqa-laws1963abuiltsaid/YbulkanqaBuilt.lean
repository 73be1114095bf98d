/-
  THE WALK of LawS1963ABuilt.
-/
import Derived.Test.YbulkanqaBuiltParts
namespace Go.Proofs.Ybulkanqa
open Go.RowKit Plain

set_option maxHeartbeats 2000000 in
theorem built_main (a0 : Option Addr) (n cap : Nat) (c : Nat → Int) (a1 : Option Addr) (len1 cap1 : Nat) (c1 : Nat → Int) (mode pos alt : Int) (w : World) (hn : n ≤ 1024)
    (hA : Bytes w a0 n c) (hd : Bytes w a1 len1 c1) (hm : 0 ≤ mode ∧ mode ≤ 255) (hp : 0 ≤ pos ∧ pos ≤ 65535) (ha : 0 ≤ alt ∧ alt ≤ 255) :
    Calls Yba.prog 3 #[.slice a0 n cap, .slice a1 len1 cap1, .int .u8 mode, .int .u16 pos, .int .u8 alt] w fun e w' => e = .returned (.bool true) ∧ Below w.heap.size w w' := by
  have hmk := run_make_row' (P := Yba.prog) 22 5 (.int .u8 0) 1 Yba.underlying22 Yba.info5 rfl .i64 .i64 n (by omega) (by omega)
  have HD := hid hd
  have HA := hid hA
  clear hd hA
  go_enter Yba.func3, Yba.ntmps3
  go_wp2
  go_loopw [13] (fun i wr => ∃ k : Nat, ∃ C : Array Value, k ≤ n ∧ i = .int .i64 k ∧ wr = w.alloc (.cells C 5) ∧ Okb C n)
    (fun i _ => n - (intOf i).toNat)
  case atStart => exact ⟨0, _, Nat.zero_le _, rfl, rfl, Okb.made n⟩
  case round =>
    obtain ⟨k, C, hk, rfl, rfl, hC⟩ := hrel
    by_cases hlt : k < n
    · obtain ⟨b, off, e0, hb, hck, hbk⟩ : ∃ b off, a0 = some ⟨b, off, none⟩ ∧ b < w.heap.size ∧ w.cell? ⟨b, off + k, none⟩ = some (.int .u8 (c k)) ∧ (0 ≤ c k ∧ c k ≤ 255) := by
        rcases HA.out with h0 | ⟨b, off, e0, hb, h1, h2⟩
        · omega
        · exact ⟨b, off, e0, hb, h1 k hlt, h2 k hlt⟩
      rw [e0]
      have HCC := hid hC
      obtain ⟨zk, hzk, _, _⟩ := hC.2 k hlt
      have hsz := hC.1
      clear hC
      go_wp2
      go_roundw
      case rel => exact ⟨k + 1, _, by omega, by go_num, rfl, HCC.out.set k (byte_range _ _ _).1 (byte_range _ _ _).2⟩
      case measure => simp [intOf]; omega
    · obtain ⟨s, hs⟩ := hC.str w
      go_wp2
      have HC := hid hC
      clear hC hs hk HA
      go_loopw [16] (fun i wr => ∃ j : Nat, ∃ D : Array Value, j ≤ n ∧ i = .int .i64 j ∧ wr = (w.alloc (.cells C 5)).alloc (.cells D 5) ∧ Okb D n)
        (fun i _ => n - (intOf i).toNat)
      case atStart => exact ⟨0, _, Nat.zero_le _, rfl, rfl, Okb.made n⟩
      case round =>
        obtain ⟨j, D, hj, rfl, rfl, hD⟩ := hrel
        by_cases hjn : j < n
        · have HDD := hid hD
          have hsD := hD.1
          have hsC := HC.out.1
          obtain ⟨zj, hzj', hz0, hz1⟩ := HC.out.2 j hjn
          obtain ⟨hjC, hzj⟩ := Array.getElem?_eq_some_iff.1 hzj'
          clear hzj'
          obtain ⟨p, hpl⟩ : ∃ p, place zj = p := ⟨_, rfl⟩
          have HP := hid hpl
          clear hD hpl
          by_cases hp0 : 0 ≤ p
          · by_cases hj1 : j < len1
            · rcases HD.out with h0 | ⟨b1, off1, e1, hb1, hc1, hr1⟩
              · omega
              · have hcj := hc1 j hj1
                have hrj := hr1 j hj1
                rw [e1]
                clear hc1 hr1
                go_wp2_with (go_at_call 5; refine (slot_at zj p HP.out _).mono ?_; rintro e w' ⟨rfl, rfl⟩)
                go_roundw
                case rel => exact ⟨j + 1, _, by omega, by go_num, rfl, HDD.out.set j (by omega) (by omega)⟩
                case measure => simp [intOf]; omega
            · go_wp2_with (go_at_call 5; refine (slot_at zj p HP.out _).mono ?_; rintro e w' ⟨rfl, rfl⟩)
              go_roundw
              case rel => exact ⟨j + 1, _, by omega, by go_num, rfl, HDD.out.set j (by omega) (by omega)⟩
              case measure => simp [intOf]; omega
          · go_wp2_with (go_at_call 5; refine (slot_at zj p HP.out _).mono ?_; rintro e w' ⟨rfl, rfl⟩)
            go_roundw
            case rel => exact ⟨j + 1, _, by omega, by go_num, rfl, HDD.out.set j hz0 hz1⟩
            case measure => simp [intOf]; omega
        · have HDD := hid hD
          have hsD := hD.1
          clear hD hj HD
          have h4 : mode % 4 = 1 ∨ mode % 4 = 2 ∨ (mode % 4 ≠ 1 ∧ mode % 4 ≠ 2) := by omega
          rcases h4 with h4 | h4 | ⟨h4, h5⟩
          · have q1 : (mode % 4 == 1) = true := by simp [h4]
            have q2 : (mode % 4 == 2) = false := by simp [h4]
            clear h4
            by_cases hn0 : 0 < n
            · have p0 : 0 ≤ pos % (n : Int) := Int.emod_nonneg _ (by omega)
              have p1 : pos % (n : Int) < (n : Int) := Int.emod_lt_of_pos _ (by omega)
              have t0 : 0 ≤ alt % 12 := by omega
              have t1 : alt % 12 < 12 := by omega
              go_wp2
              go_region
              go_wp2_with fail
              refine (check_built_drew w C _ n n n s (HDD.out.set _ (byte_range _ _ _).1 (byte_range _ _ _).2) (Nat.le_refl _) hn).mono ?_
              rintro e w' ⟨rfl, hb'⟩
              have HX := hid hb'
              clear hb'
              go_wp2
              go_ret
              exact ⟨rfl, HX.out⟩
            · have hd0 : decide ((0 : Int) < (n : Int)) = false := decide_eq_false (by omega)
              go_wp2_with fail
              refine (check_built w C _ n n n s HDD.out (Nat.le_refl _) hn).mono ?_
              rintro e w' ⟨rfl, hb'⟩
              have HX := hid hb'
              clear hb'
              go_wp2
              go_ret
              exact ⟨rfl, HX.out⟩
          · have q1 : (mode % 4 == 1) = false := by simp [h4]
            have q2 : (mode % 4 == 2) = true := by simp [h4]
            clear h4
            by_cases hn0 : 0 < n
            · go_wp2_with fail
              refine (check_built w C _ n (n - 1) n s HDD.out (Nat.sub_le _ _) hn).mono ?_
              rintro e w' ⟨rfl, hb'⟩
              have HX := hid hb'
              clear hb'
              go_wp2
              go_ret
              exact ⟨rfl, HX.out⟩
            · have hd0 : decide ((0 : Int) < (n : Int)) = false := decide_eq_false (by omega)
              go_wp2_with fail
              refine (check_built w C _ n n n s HDD.out (Nat.le_refl _) hn).mono ?_
              rintro e w' ⟨rfl, hb'⟩
              have HX := hid hb'
              clear hb'
              go_wp2
              go_ret
              exact ⟨rfl, HX.out⟩
          · have q1 : (mode % 4 == 1) = false := by simp [h4]
            have q2 : (mode % 4 == 2) = false := by simp [h5]
            clear h4 h5
            go_wp2_with fail
            refine (check_built w C _ n n n s HDD.out (Nat.le_refl _) hn).mono ?_
            rintro e w' ⟨rfl, hb'⟩
            have HX := hid hb'
            clear hb'
            go_wp2
            go_ret
            exact ⟨rfl, HX.out⟩
end Go.Proofs.Ybulkanqa
