/-
  'Rows.LawS1965AMatchesSaid', proved. The walk: YbulkanrcMatches.lean.
-/
import Derived.Test.YbulkanrcMatches
import Derived.Test.YbulkanrcOpen
import Derived.ChangeOld
namespace Go.Proofs.Ybulkanrc.lawS1965AMatches
open Go.ChangeShapes Go.WideShapes Go.ChangeAt Go.RowKit

theorem own : ownKnob Yba.prog.godebug = none := by kernel_rfl
theorem laidOut : laidOutB Yba.prog = true := by kernel_rfl

set_option maxRecDepth 100000 in
set_option maxHeartbeats 1000000 in
theorem walk {N : Nat → Int} {A : Nat → Option Addr} {L C : Nat → Nat} {Z : Nat → Nat → Int} {N' : Nat → Int} {A' : Nat → Option Addr} {L' C' : Nat → Nat} {Z' : Nat → Nat → Int}
    (a : Option Addr) (len cap : Nat) (a' : Option Addr) (len' cap' : Nat) (w : World) (hE : Entries w a len N A L C Z) (hm : len ≤ 9223372036854775807) (hE' : Entries w a' len' N' A' L' C' Z') (hm' : len' ≤ 9223372036854775807) :
    Calls Yba.prog 3 #[.slice a len cap, .slice a' len' cap'] w fun e w' => e = .returned (.bool true) ∧ Below w.heap.size w w' := by
  by_cases h : len ≤ 300 ∧ ∀ i, i < len → L i ≤ 300
  · by_cases h' : len' ≤ 300 ∧ ∀ i, i < len' → L' i ≤ 300
    · exact matches_small a len cap a' len' cap' w hE h.1 h.2 hE' h'.1 h'.2
    · have HB := hid (big_no a len cap w hE h.1 h.2)
      have HB' := hid (big_yes a' len' cap' w hE' hm' h')
      clear hE h hE' h'
      go_enter Yba.func3, Yba.ntmps3
      go_wp2_with fail
      refine HB.out.mono ?_
      rintro e w' ⟨rfl, hw⟩
      cases hw.symm
      go_wp2_with fail
      refine HB'.out.mono ?_
      rintro e w' ⟨rfl, hw⟩
      cases hw.symm
      go_wp2
      go_ret
      exact ⟨rfl, Below.refl _ _⟩
  · have HB := hid (big_yes a len cap w hE hm h)
    clear hE h hE'
    go_enter Yba.func3, Yba.ntmps3
    go_wp2_with fail
    refine HB.out.mono ?_
    rintro e w' ⟨rfl, hw⟩
    cases hw.symm
    go_wp2
    go_ret
    exact ⟨rfl, Below.refl _ _⟩

set_option maxRecDepth 100000 in
theorem lifted (os : Os) (started : os.Started) (H : Type) (enc : TypeId × Value → H) :
    ReturnsInHanded {} Yba.checked os 3 .any (Rows.lawS1965AMatchesSpec.pre6 enc Yba.prog Yba.f3 Rows.lawS1965AMatchesRow.domain false) (Rows.lawS1965AMatchesSpec.post enc Yba.prog Yba.f3 false true false false) := by
  refine returnsInHanded_of_change (C := Yba.checked) own started (by kernel_rfl) Yba.func3
    (ChangeSpec.witness6 (enc := enc) (C := Yba.checked) false ⟨#[], #[.slice none 0 0, .slice none 0 0], []⟩ 8 (by kernel_rfl) (by kernel_rfl) (by kernel_rfl) (by kernel_rfl)) ?_
  intro W base args ds gs before hval0 hW hcnd _
  have hval : ∀ (j : Nat) t v, Yba.f3.params[j]? = some t → args[j]? = some v → Value.okWide Yba.prog W .any base t v := hval0
  have hW' := hW
  obtain ⟨p, q, hA0, hV, rfl, hfz, hnd⟩ := hW
  have hA : DataW.TrodAll enc Yba.prog W 0 (fun _ => true) true Yba.f3.params.toList args.toList ds p := hA0
  rw [Yba.params3] at hA hval
  obtain ⟨v0, vs0, d0, ds0, p0, q0, hargs, rfl, rfl, h0, r0⟩ := trodAll_cons hA
  obtain ⟨v1, vs1, d1, ds1, p1, q1, rfl, rfl, rfl, h1, r1⟩ := trodAll_cons r0
  obtain ⟨rfl, rfl, rfl⟩ := trodAll_nil r1
  obtain rfl : args = #[v0, v1] := by cases args; simp_all
  obtain ⟨rfl, rfl⟩ := trodVars_none hV
  obtain ⟨a0, len0, cap0, rfl⟩ := okWide_slice Yba.underlying22 (hval 0 22 v0 rfl rfl)
  have k0 := h0
  have lt0 : ∀ x ∈ p0, x.block < W.heap.size := by obtain ⟨m, hm⟩ := k0; exact DataW.trod_lt m _ _ _ hm
  obtain ⟨N, A, L, C, Z, hE, hm⟩ : ∃ N A L C Z, Entries W a0 len0 N A L C Z ∧ len0 ≤ 9223372036854775807 := by
    obtain ⟨fuel, hf⟩ := h0
    exact entries_of (by simpa [Value.cells] using hf)
  obtain ⟨a1, len1, cap1, rfl⟩ := okWide_slice Yba.underlying22 (hval 1 22 v1 rfl rfl)
  have k1 := h1
  have lt1 : ∀ x ∈ p1, x.block < W.heap.size := by obtain ⟨m, hm⟩ := k1; exact DataW.trod_lt m _ _ _ hm
  obtain ⟨N', A', L', C', Z', hE', hm'⟩ : ∃ N A L C Z, Entries W a1 len1 N A L C Z ∧ len1 ≤ 9223372036854775807 := by
    obtain ⟨fuel, hf⟩ := h1
    exact entries_of (by simpa [Value.cells] using hf)
  clear hA0 hval0
  refine (walk a0 len0 cap0 a1 len1 cap1 W hE hm hE' hm').mono fun e W' ⟨he, bel⟩ => ?_
  subst he
  exact ⟨_, rfl, _, _, _, [], _, [], hW', trodAll_mk1 (shut_bool Yba.underlying4 _), (trodAll_cons_mk (Below.trod laidOut (by kernel_rfl) (of_decide_eq_true (by kernel_rfl)) k0 bel lt0) (trodAll_cons_mk (Below.trod laidOut (by kernel_rfl) (of_decide_eq_true (by kernel_rfl)) k1 bel lt1) trodAll_mk0)), rfl, bel.frame _, fun h => by cases h⟩

theorem over : Rows.lawS1965AMatchesRow.holds Yba.pinned (OpenSpec.ofChange Rows.lawS1965AMatchesSpec) :=
  OpenClaim.holds_of_wide 3 Yba.f3 rfl rfl rfl rfl rfl rfl rfl ⟨rfl, rfl, rfl, rfl, rfl⟩ rfl rfl rfl rfl rfl (by kernel_rfl) Yba.func3 (by kernel_rfl)
    (of_decide_eq_true (by kernel_rfl)) (by unfold Func.isWrapper; first | (rw [if_pos (by decide +kernel)]; kernel_rfl) | (rw [if_neg (by decide +kernel)]; exact ⟨rfl, rfl⟩))
    (fun os started H enc _ => lifted os started H enc)

theorem proved : Rows.LawS1965AMatchesSaid := over
end Go.Proofs.Ybulkanrc.lawS1965AMatches
