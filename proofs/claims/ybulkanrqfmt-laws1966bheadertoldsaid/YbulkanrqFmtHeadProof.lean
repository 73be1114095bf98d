/-
  'Rows.LawS1966BHeaderToldSaid', proved. The walk: YbulkanrqFmtHead.lean. The road never comes to fmt.
-/
import Derived.Test.YbulkanrqFmtHead
import Derived.Test.YbulkanrqFmtTie
import Derived.Test.YbulkanrqFmtCards
import Derived.ProofKit
import Derived.OpenShut
import Derived.OpenVars
import Derived.ChangeOld
import Derived.LaidMore
import Derived.Stop.Joined
import Derived.Stop.JoinedAt
import Derived.Stop.JoinedTold
import Derived.Deep.DeepWitnessRef
import Derived.SevenTiedAt
import Derived.WalkSmall
namespace Go.Proofs.YbulkanrqFmt.lawS1966BHeader
open Go.ChangeShapes Go.WideShapes Go.ChangeAt Go.RowKit
set_option linter.unusedVariables false

theorem own : ownKnob Ybaf.prog.godebug = none := by kernel_rfl
theorem laidOut : laidOutB Ybaf.pinned.checked.prog = true := by kernel_rfl
theorem laidOut' : laidOutB Ybaf.prog = true := by kernel_rfl
theorem stops : Ybaf.pinned.checked.prog.stops = Rows.lawS1966BHeaderRow.stops := by kernel_rfl
theorem stopKnobs : Ybaf.pinned.checked.prog.stopKnobs = [] := by kernel_rfl
theorem quiet (os : Os) : Stop.quiet Ybaf.pinned.checked.prog os := by
  intro k hk
  rw [stopKnobs] at hk
  cases hk

/-- The door's own heap meets the condition. -/
theorem door_met (os : Os) (args : Array Value) : laidMetH Ybaf.prog Rows.lawS1966BHeaderRow.laid ((World.doorLaid Ybaf.prog 400 os).forCall (fun _ _ => 0) ⟨#[], args, []⟩).memory :=
  laidMetH_of_parts3 (fuel := 8) (laidMet_of_run' 8 (by kernel_rfl) (by kernel_rfl)) (by kernel_rfl) (by kernel_rfl)

theorem bytes_of {H : Type} {enc : TypeId × Value → H} {W : World} {fuel : Nat} {a : Option Addr} {len cap : Nat} {x : DataW H × List MemPlace} (hf : DataW.trod enc Ybaf.prog W 0 (fun _ => true) true fuel 22 [.slice a len cap] = some x) :
    ∃ Z, Bytes W a len Z := by
  rcases open_ints Ybaf.underlying22 Ybaf.underlying5 (by kernel_rfl) hf with ⟨hcs, _⟩ | ⟨y, l, c, zs, hcs, _, hl, hm, hz, _, hcell, hwz⟩
  · simp at hcs
    obtain ⟨rfl, rfl, rfl⟩ := hcs
    exact ⟨fun _ => 0, .inl rfl⟩
  · simp at hcs
    obtain ⟨rfl, rfl, rfl⟩ := hcs
    unfold maxLen at hm
    refine ⟨fun i => zs.getD i 0, ?_⟩
    have hz' : zs.length = cap := by simpa using hz
    by_cases h0 : len = 0
    · exact .inl h0
    · obtain ⟨b, off, rfl, hq⟩ := ints_at hcell (by omega)
      exact .inr ⟨b, off, rfl, block_lt_of_cell (hq 0 (by omega)), fun i hi => ⟨hq i (by omega), by simpa using range_u8 hwz i⟩⟩

theorem hv_of {l : List Value} (hl : l.length = 12) (h : ∀ i, i < 12 → ∃ n, l[i]? = some (.int .u8 n) ∧ 0 ≤ n ∧ n ≤ 255) : ∃ c, l = hv c ∧ ∀ i, i < 12 → 0 ≤ c i ∧ c i ≤ 255 := by
  refine ⟨fun i => intOf (l.getD i .nilIface), List.ext_getElem? fun i => ?_, fun i hi => ?_⟩
  · rcases Nat.lt_or_ge i 12 with hi | hi
    · obtain ⟨n, hn, _⟩ := h i hi
      rw [get_hv _ i hi, List.getD_eq_getElem?_getD, hn]
      rfl
    · rw [List.getElem?_eq_none (by omega), List.getElem?_eq_none (by rw [len_hv]; exact hi)]
  · obtain ⟨n, hn, h0⟩ := h i hi
    have e : intOf (l.getD i .nilIface) = n := by
      rw [List.getD_eq_getElem?_getD, hn]
      rfl
    show 0 ≤ intOf (l.getD i .nilIface) ∧ intOf (l.getD i .nilIface) ≤ 255
    rw [e]
    exact h0

theorem arr_of {H : Type} {enc : TypeId × Value → H} {W : World} {fuel : Nat} {l : List Value} {x : DataW H × List MemPlace} (hf : DataW.trod enc Ybaf.prog W 0 (fun _ => true) true fuel 30 l = some x) :
    ∃ c, l = hv c ∧ ∀ i, i < 12 → 0 ≤ c i ∧ c i ≤ 255 := by
  obtain ⟨xs, m, _, _, hlen, hxs, hall⟩ := DataW.trod_array Ybaf.underlying30 hf
  have c30 : Ybaf.prog.cellsOf 30 = 12 := by kernel_rfl
  have c5 : Ybaf.prog.cellsOf 5 = 1 := by kernel_rfl
  rw [c30] at hlen
  rw [c5] at hall
  refine hv_of hlen fun i hi => ?_
  have h1 := hall i hi
  rw [List.getElem?_eq_getElem (by omega)] at h1
  obtain ⟨n, hn, _, hw⟩ := DataW.trod_int Ybaf.underlying5 h1
  refine ⟨n, ?_, bounds_u8 hw⟩
  rw [Nat.mul_one, List.drop_eq_getElem_cons (by omega), List.take_succ_cons, List.take_zero] at hn
  rw [List.getElem?_eq_getElem (by omega)]
  exact congrArg some (List.cons.inj hn).1

set_option maxHeartbeats 2000000 in
set_option maxRecDepth 100000 in
theorem lifted (os : Os) (started : os.Started) (H : Type) (enc : TypeId × Value → H) :
    ReturnsInTold none {} Ybaf.checked os 4 .any Input.okWide ((OpenSpec.ofChange Rows.lawS1966BHeaderSpec).preRow enc Ybaf.prog Ybaf.f4 [] false Rows.lawS1966BHeaderRow.laid)
      (fun F => ((OpenSpec.ofChange Rows.lawS1966BHeaderSpec).at F).post enc Ybaf.prog Ybaf.f4 false true false false) (aloneAtReturn Ybaf.prog) nothingAlways := by
  refine returnsInTold_of_row (C := Ybaf.checked) (s := OpenSpec.ofChange Rows.lawS1966BHeaderSpec) (by kernel_rfl) own started (by kernel_rfl) Ybaf.func4
    (OpenSpec.witness_stopped_atRef (enc := enc) (C := Ybaf.checked) false (World.doorLaid Ybaf.prog 400 os) #[.agg #[.int .u8 0, .int .u8 0, .int .u8 0, .int .u8 0, .int .u8 0, .int .u8 0, .int .u8 0, .int .u8 0, .int .u8 0, .int .u8 0, .int .u8 0, .int .u8 0], .slice none 0 0] rfl (by kernel_rfl) (by kernel_rfl) (by kernel_rfl)
      (OpenSpec.preRow_of_B rfl 8 (by kernel_rfl) (by kernel_rfl) (door_met os _))) ?_
  intro F W base args ds gs before _ hF hval0 hW _ _ _ _ _
  have hval : ∀ (j : Nat) t v, Ybaf.f4.params[j]? = some t → args[j]? = some v → Value.okWide Ybaf.prog W .any base t v := hval0
  have hW' := hW
  obtain ⟨p, q, hA0, hV0, rfl, hfz, hnd⟩ := hW
  have hA : DataW.TrodAll enc Ybaf.prog W 0 (fun _ => true) true Ybaf.f4.params.toList args.toList ds p := hA0
  have hV : DataW.TrodVars enc Ybaf.prog W (fun _ => true) Rows.lawS1966BHeaderSpec.vars gs q := hV0
  rw [Ybaf.params4] at hA hval
  obtain ⟨v0, vs0, d0, ds0, p0, q0, hargs, rfl, rfl, h0, r0⟩ := trodAll_cons hA
  obtain ⟨v1, vs1, d1, ds1, p1, q1, rfl, rfl, rfl, h1, r1⟩ := trodAll_cons r0
  obtain ⟨rfl, rfl, rfl⟩ := trodAll_nil r1
  obtain rfl : args = #[v0, v1] := by cases args; simp_all
  obtain ⟨g0, g1, rfl⟩ : ∃ g0 g1, gs = [g0, g1] := by
    match gs, hV with
    | [g0, g1], _ => exact ⟨g0, g1, rfl⟩
    | [], h => exact h.elim
    | [_], ⟨_, _, _, _, _, _, _, _, _, _, h, _⟩ => exact h.elim
    | _ :: _ :: _ :: _, ⟨_, _, _, _, _, _, _, _, _, _, ⟨_, _, _, _, _, _, _, _, _, _, h, _⟩, _⟩ => exact h.elim
  obtain ⟨cs, rfl, hsz, _⟩ : ∃ cs, v0 = .agg cs ∧ cs.size = Ybaf.prog.cellsOf 30 ∧ Row.okWide Ybaf.prog W .any base 30 cs := by
    have := hval 0 30 v0 rfl rfl
    simpa [Value.okWide, Ybaf.underlying30] using this
  obtain ⟨l⟩ := cs
  have k0 := h0
  have lt0 : ∀ x ∈ p0, x.block < W.heap.size := by obtain ⟨m, hm⟩ := k0; exact DataW.trod_lt m _ _ _ hm
  obtain ⟨c, rfl, hc⟩ : ∃ c, l = hv c ∧ ∀ i, i < 12 → 0 ≤ c i ∧ c i ≤ 255 := by
    obtain ⟨fuel, hf⟩ := h0
    exact arr_of (by simpa [Value.cells] using hf)
  obtain ⟨a1, len1, cap1, rfl⟩ := okWide_slice Ybaf.underlying22 (hval 1 22 v1 rfl rfl)
  have k1 := h1
  have lt1 : ∀ x ∈ p1, x.block < W.heap.size := by obtain ⟨m, hm⟩ := k1; exact DataW.trod_lt m _ _ _ hm
  obtain ⟨Z1, B1⟩ : ∃ Z, Bytes W a1 len1 Z := by
    obtain ⟨fuel, hf⟩ := h1
    exact bytes_of (by simpa [Value.cells] using hf)
  clear hA0 hval0
  refine (header_all W c a1 len1 cap1 Z1 hc B1).mono fun e W' ⟨he, bel⟩ => ?_
  subst he
  exact ⟨_, rfl, _, _, _, [], _, _, hW', trodAll_mk1 (shut_bool Ybaf.underlying4 _), (trodAll_cons_mk (Below.trod laidOut' (by kernel_rfl) (of_decide_eq_true (by kernel_rfl)) k0 bel lt0) (trodAll_cons_mk (Below.trod laidOut' (by kernel_rfl) (of_decide_eq_true (by kernel_rfl)) k1 bel lt1) trodAll_mk0)), Below.trodVars laidOut' bel (by kernel_rfl) hV, bel.frame _, fun h => by cases h⟩

/-- THE CARD. -/
theorem proved : Rows.LawS1966BHeaderToldSaid :=
  Claim7.holds_of_told_tied_any_at .later 4 Ybaf.f4 (Rows.lawS1966BHeaderRow.stops.headD "") [] [] _ _ _ _ _ (by kernel_rfl) rfl rfl rfl laidOut (by kernel_rfl) rfl ⟨rfl, rfl, rfl, rfl, rfl, rfl, rfl⟩ rfl rfl (by kernel_rfl) (by kernel_rfl) Ybaf.func4 (by kernel_rfl)
    (of_decide_eq_true (by kernel_rfl)) (of_decide_eq_true (by kernel_rfl)) stops.symm rfl stopKnobs.symm (by kernel_rfl)
    (by kernel_rfl) (by kernel_rfl) (by kernel_rfl) (by kernel_rfl) (by kernel_rfl) (by kernel_rfl) (by kernel_rfl) (by kernel_rfl) (by kernel_rfl) rfl (by kernel_rfl) rfl rfl
    rfl rfl
    rfl (by kernel_rfl) (by kernel_rfl) (by kernel_rfl) (by decide) (by kernel_rfl) lawS1966BHeader_row_tie
    (OpenClaim.moreEntering_of (by kernel_rfl) (by kernel_rfl) (by kernel_rfl) (by kernel_rfl) (by kernel_rfl) (by kernel_rfl) (by kernel_rfl) (by kernel_rfl) (by kernel_rfl) (by kernel_rfl))
    ⟨_, WideRow.started_initial, quiet _⟩
    (fun os started _ H enc _ => lifted os started H enc)
end Go.Proofs.YbulkanrqFmt.lawS1966BHeader
