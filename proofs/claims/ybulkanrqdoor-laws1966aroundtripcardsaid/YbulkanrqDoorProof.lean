/-
  'Rows.LawS1966ARoundTripSaid' and its tied card, proved. The walk: YbulkanrqDoorLaw.lean.
-/
import Derived.Test.YbulkanrqDoorLaw
import Derived.Test.YbulkanrqDoorTie
import Derived.Test.YbulkanrqDoorCards
import Derived.ProofKit
import Derived.OpenShut
import Derived.ChangeOld
import Derived.LaidMore
import Derived.Stop.Joined
import Derived.Stop.ErrReads
import Derived.RowKitTokens
import Derived.WalkSmall
namespace Go.Proofs.YbulkanrqDoor.lawS1966ARoundTrip
open Go.ChangeShapes Go.WideShapes Go.ChangeAt Go.RowKit
set_option linter.unusedVariables false

theorem own : ownKnob Ybad.prog.godebug = none := by kernel_rfl
theorem laidOut : laidOutB Ybad.prog = true := by kernel_rfl
/-- The variable's name, off the given specification; the dynamic type's name, off the given datum. -/
abbrev nShort : String := Rows.lawS1966ARoundTripSpec.vars.headD ""
def nErr : String := match Rows.laid_example_com_sealwire_sealwire_internal_wire_errShort (H := Unit) with
  | .iface t _ => t
  | _ => ""
theorem gShort : Ybad.prog.globalNamed nShort = some 1 := by kernel_rfl
theorem tShort : (Ybad.prog.globals[1]?).map (·.type) = some 28 := by kernel_rfl
theorem cells43 : Ybad.prog.cellsOf 43 = 1 := by kernel_rfl
theorem cells9 : Ybad.prog.cellsOf 9 = 1 := by kernel_rfl
theorem row41 (u : TypeId) (h : Ybad.prog.typeName? 3 u = some nErr) : u = 41 :=
  typeName_ptr_named (nm := "errors.errorString") (by kernel_rfl) (by kernel_rfl) (by decide) u (h.trans (congrArg some (by decide)))

/-- The door's own heap meets the condition. -/
theorem door_met (os : Os) (args : Array Value) : laidMetH Ybad.prog Rows.lawS1966ARoundTripRow.laid ((World.doorLaid Ybad.prog 400 os).forCall (fun _ _ => 0) ⟨#[], args, []⟩).memory :=
  laidMetH_of_parts3 (fuel := 8) (laidMet_of_run' 8 (by kernel_rfl) (by kernel_rfl)) (by kernel_rfl) (by kernel_rfl)

/-- What the condition gives: errShort holds a pointer to an errors.errorString. -/
theorem of_laid {W : World} (h : laidMetH Ybad.prog Rows.lawS1966ARoundTripRow.laid W) : ∃ a : Addr, W.var? Ybad.prog nShort = some #[.iface 41 (.pointer (some a))] := by
  rw [MakeChecks.laidMetH_plain _ _ _ (by kernel_rfl)] at h
  obtain ⟨ps, ⟨g0, t0, cs0, f0, p0, q0, hg0, ht0, hv0, hd0, hq0, e0⟩, hnd, hrows⟩ := h
  obtain rfl := Option.some.inj (gShort.symm.trans hg0)
  obtain rfl := Option.some.inj (tShort.symm.trans ht0)
  have hq0' : q0 = [] := hq0
  subst hq0'
  subst e0
  obtain ⟨l0⟩ := cs0
  have ok0 : ∀ u v, l0 = [.iface u v] → Value.okWide Ybad.prog W .any 0 u v := fun u v e => by
    subst e
    exact (hrows 1 0 (by simp [MemPlace.row])).2 u v (by simpa using World.var?_cell hg0 hv0 0)
  obtain ⟨a0, s0, rfl, hc0, hs0, hz0, rfl⟩ := errorString_of_trod Ybad.underlying28 row41 Ybad.underlying41 Ybad.underlying43 rfl rfl Ybad.underlying9 cells43 cells9 hd0 ok0
  exact ⟨a0, hv0⟩

/-- The variable, read as a token. -/
theorem vars_read {H : Type} (enc : TypeId × Value → H) {W : World} {x0 : Value} (h0 : W.var? Ybad.prog nShort = some #[x0]) (i0 : IsIface x0) (sp : Nat → Bool) :
    DataW.TrodVars enc Ybad.prog W sp [nShort] [tok enc x0] [.cell 1 0] :=
  ⟨1, 28, #[x0], 1, [], [], gShort, tShort, h0, trod_held Ybad.underlying28 i0 0, rfl, rfl⟩

theorem arg_of {H : Type} {enc : TypeId × Value → H} {W : World} {fuel : Nat} {a : Option Addr} {len cap : Nat} {x : DataW H × List MemPlace} (hf : DataW.trod enc Ybad.prog W 0 (fun _ => true) true fuel 24 [.slice a len cap] = some x) :
    ∃ Z, Arg W a len cap Z ∧ len ≤ 9223372036854775807 := by
  rcases open_ints Ybad.underlying24 Ybad.underlying5 (by kernel_rfl) hf with ⟨hcs, _⟩ | ⟨y, l, c, zs, hcs, _, hl, hm, hz, _, hcell, hwz⟩
  · simp at hcs
    obtain ⟨rfl, rfl, rfl⟩ := hcs
    exact ⟨fun _ => 0, ⟨fun _ => ⟨rfl, rfl⟩, .inl rfl⟩, by omega⟩
  · simp at hcs
    obtain ⟨rfl, rfl, rfl⟩ := hcs
    unfold maxLen at hm
    refine ⟨fun i => zs.getD i 0, ⟨fun h => absurd h (by simp), ?_⟩, by omega⟩
    have hz' : zs.length = cap := by simpa using hz
    by_cases h0 : len = 0
    · exact .inl h0
    · obtain ⟨b, off, rfl, hq⟩ := ints_at hcell (by omega)
      exact .inr ⟨b, off, rfl, block_lt_of_cell (hq 0 (by omega)), fun i hi => ⟨hq i (by omega), by simpa using range_u8 hwz i⟩⟩

set_option maxRecDepth 100000 in
set_option maxHeartbeats 1000000 in
theorem walk (pd hi lo fud : Int) (a4 : Option Addr) (l4 c4 : Nat) (Z4 : Nat → Int) (idd rcc : Int) (a7 : Option Addr) (l7 c7 : Nat) (Z7 : Nat → Int) (a8 : Option Addr) (l8 c8 : Nat) (Z8 : Nat → Int) (cut : Int) (pre : Bool) (w : World)
    (bpd : 0 ≤ pd ∧ pd ≤ 255) (bhi : 0 ≤ hi ∧ hi ≤ 65535) (blo : 0 ≤ lo ∧ lo ≤ 4294967295) (bfud : 0 ≤ fud ∧ fud ≤ 65535) (bid : 0 ≤ idd ∧ idd ≤ 65535) (brc : 0 ≤ rcc ∧ rcc ≤ 65535) (bcut : 0 ≤ cut ∧ cut ≤ 255)
    (h4 : Arg w a4 l4 c4 Z4) (h7 : Arg w a7 l7 c7 Z7) (h8 : Arg w a8 l8 c8 Z8) (m4 : l4 ≤ 9223372036854775807) (m7 : l7 ≤ 9223372036854775807) (m8 : l8 ≤ 9223372036854775807)
    (Te : TypeId) (xe : Value) (h1g : 1 < w.heap.size) (hG : w.cell? ⟨1, 0, none⟩ = some (.iface Te xe)) :
    Calls Ybad.prog 3 #[.int .u8 pd, .int .u16 hi, .int .u32 lo, .int .u16 fud, .slice a4 l4 c4, .int .u16 idd, .int .u16 rcc, .slice a7 l7 c7, .slice a8 l8 c8, .int .u8 cut, .bool pre] w
      fun e w' => e = .returned (.bool true) ∧ Below w.heap.size w w' := by
  by_cases k4 : l4 ≤ 1024
  · by_cases k7 : l7 ≤ 1024
    · by_cases k8 : l8 ≤ 1024
      · exact law_walk pd hi lo fud a4 l4 c4 Z4 idd rcc a7 l7 c7 Z7 a8 l8 c8 Z8 cut pre w bpd bhi blo bfud bid brc bcut h4 h7 h8 k4 k7 k8 Te xe h1g hG
      · have d7 : decide ((1024 : Int) < (l7 : Int)) = false := decide_eq_false (by omega)
        have d8 : decide ((1024 : Int) < (l8 : Int)) = true := decide_eq_true (by omega)
        clear h4 h7 h8
        go_enter Ybad.func3, Ybad.ntmps3
        go_wp2
        go_ret
        exact ⟨rfl, Below.refl _ _⟩
    · have d7 : decide ((1024 : Int) < (l7 : Int)) = true := decide_eq_true (by omega)
      clear h4 h7 h8
      go_enter Ybad.func3, Ybad.ntmps3
      go_wp2
      go_ret
      exact ⟨rfl, Below.refl _ _⟩
  · clear h4 h7 h8
    go_enter Ybad.func3, Ybad.ntmps3
    go_wp2
    go_ret
    exact ⟨rfl, Below.refl _ _⟩

set_option maxHeartbeats 2000000 in
set_option maxRecDepth 100000 in
theorem lifted (os : Os) (started : os.Started) (H : Type) (enc : TypeId × Value → H) :
    ReturnsInHanded {} Ybad.checked os 3 .any (fun w args => (Rows.lawS1966ARoundTripSpec.pre enc Ybad.prog Ybad.f3 [] false w args ∧ laidMetH Ybad.prog Rows.lawS1966ARoundTripRow.laid w) ∧ sizedMet enc Ybad.prog Ybad.f3 (OpenSpec.ofChange Rows.lawS1966ARoundTripSpec) false w args)
      (Rows.lawS1966ARoundTripSpec.post enc Ybad.prog Ybad.f3 false true false false) := by
  refine returnsInHanded_of_change_and (C := Ybad.checked) (X := fun w _ => laidMetH Ybad.prog Rows.lawS1966ARoundTripRow.laid w) (fun _ _ _ hh h => h.of_heap hh) own started (by kernel_rfl) Ybad.func3
    (ChangeSpec.witness_shaped (enc := enc) (C := Ybad.checked) (os := os) (X := fun w _ => laidMetH Ybad.prog Rows.lawS1966ARoundTripRow.laid w) false (World.doorLaid Ybad.prog 400 os) #[.int .u8 0, .int .u16 0, .int .u32 0, .int .u16 0, .slice none 0 0, .int .u16 0, .int .u16 0, .slice none 0 0, .slice none 0 0, .int .u8 0, .bool false] 8 rfl (World.shaped_of_RefB (by kernel_rfl) (by kernel_rfl)) (by kernel_rfl) (by kernel_rfl) (by kernel_rfl) (door_met os _)) ?_
  intro W base args ds gs before hval0 hW _ _ hL _
  have hval : ∀ (j : Nat) t v, Ybad.f3.params[j]? = some t → args[j]? = some v → Value.okWide Ybad.prog W .any base t v := hval0
  have hW' := hW
  obtain ⟨p, q, hA0, hV0, rfl, hfz, hnd⟩ := hW
  have hA : DataW.TrodAll enc Ybad.prog W 0 (fun _ => true) true Ybad.f3.params.toList args.toList ds p := hA0
  have hV : DataW.TrodVars enc Ybad.prog W (fun _ => true) [nShort] gs q := hV0
  rw [Ybad.params3] at hA hval
  obtain ⟨v0, vs0, d0, ds0, p0, q0, hargs, rfl, rfl, h0, r0⟩ := trodAll_cons hA
  obtain ⟨v1, vs1, d1, ds1, p1, q1, rfl, rfl, rfl, h1, r1⟩ := trodAll_cons r0
  obtain ⟨v2, vs2, d2, ds2, p2, q2, rfl, rfl, rfl, h2, r2⟩ := trodAll_cons r1
  obtain ⟨v3, vs3, d3, ds3, p3, q3, rfl, rfl, rfl, h3, r3⟩ := trodAll_cons r2
  obtain ⟨v4, vs4, d4, ds4, p4, q4, rfl, rfl, rfl, h4, r4⟩ := trodAll_cons r3
  obtain ⟨v5, vs5, d5, ds5, p5, q5, rfl, rfl, rfl, h5, r5⟩ := trodAll_cons r4
  obtain ⟨v6, vs6, d6, ds6, p6, q6, rfl, rfl, rfl, h6, r6⟩ := trodAll_cons r5
  obtain ⟨v7, vs7, d7, ds7, p7, q7, rfl, rfl, rfl, h7, r7⟩ := trodAll_cons r6
  obtain ⟨v8, vs8, d8, ds8, p8, q8, rfl, rfl, rfl, h8, r8⟩ := trodAll_cons r7
  obtain ⟨v9, vs9, d9, ds9, p9, q9, rfl, rfl, rfl, h9, r9⟩ := trodAll_cons r8
  obtain ⟨v10, vs10, d10, ds10, p10, q10, rfl, rfl, rfl, h10, r10⟩ := trodAll_cons r9
  obtain ⟨rfl, rfl, rfl⟩ := trodAll_nil r10
  obtain rfl : args = #[v0, v1, v2, v3, v4, v5, v6, v7, v8, v9, v10] := by cases args; simp_all
  obtain ⟨ae, hve⟩ := of_laid hL
  obtain ⟨rfl, rfl⟩ := hV.unique (vars_read enc hve trivial _)
  have hg1 : W.cell? ⟨1, 0, none⟩ = some (.iface 41 (.pointer (some ae))) := by simpa using World.var?_cell gShort hve 0
  obtain ⟨a0, rfl, rfl, rfl, w0⟩ := open_int Ybad.underlying5 (hval 0 5 v0 rfl rfl) h0
  obtain ⟨a1, rfl, rfl, rfl, w1⟩ := open_int Ybad.underlying22 (hval 1 22 v1 rfl rfl) h1
  obtain ⟨a2, rfl, rfl, rfl, w2⟩ := open_int Ybad.underlying23 (hval 2 23 v2 rfl rfl) h2
  obtain ⟨a3, rfl, rfl, rfl, w3⟩ := open_int Ybad.underlying22 (hval 3 22 v3 rfl rfl) h3
  obtain ⟨a4, len4, cap4, rfl⟩ := okWide_slice Ybad.underlying24 (hval 4 24 v4 rfl rfl)
  have k4 := h4
  have lt4 : ∀ x ∈ p4, x.block < W.heap.size := by obtain ⟨m, hm⟩ := k4; exact DataW.trod_lt m _ _ _ hm
  obtain ⟨Z4, A4, M4⟩ : ∃ Z, Arg W a4 len4 cap4 Z ∧ len4 ≤ 9223372036854775807 := by
    obtain ⟨fuel, hf⟩ := h4
    exact arg_of (by simpa [Value.cells] using hf)
  obtain ⟨a5, rfl, rfl, rfl, w5⟩ := open_int Ybad.underlying22 (hval 5 22 v5 rfl rfl) h5
  obtain ⟨a6, rfl, rfl, rfl, w6⟩ := open_int Ybad.underlying22 (hval 6 22 v6 rfl rfl) h6
  obtain ⟨a7, len7, cap7, rfl⟩ := okWide_slice Ybad.underlying24 (hval 7 24 v7 rfl rfl)
  have k7 := h7
  have lt7 : ∀ x ∈ p7, x.block < W.heap.size := by obtain ⟨m, hm⟩ := k7; exact DataW.trod_lt m _ _ _ hm
  obtain ⟨Z7, A7, M7⟩ : ∃ Z, Arg W a7 len7 cap7 Z ∧ len7 ≤ 9223372036854775807 := by
    obtain ⟨fuel, hf⟩ := h7
    exact arg_of (by simpa [Value.cells] using hf)
  obtain ⟨a8, len8, cap8, rfl⟩ := okWide_slice Ybad.underlying24 (hval 8 24 v8 rfl rfl)
  have k8 := h8
  have lt8 : ∀ x ∈ p8, x.block < W.heap.size := by obtain ⟨m, hm⟩ := k8; exact DataW.trod_lt m _ _ _ hm
  obtain ⟨Z8, A8, M8⟩ : ∃ Z, Arg W a8 len8 cap8 Z ∧ len8 ≤ 9223372036854775807 := by
    obtain ⟨fuel, hf⟩ := h8
    exact arg_of (by simpa [Value.cells] using hf)
  obtain ⟨a9, rfl, rfl, rfl, w9⟩ := open_int Ybad.underlying5 (hval 9 5 v9 rfl rfl) h9
  obtain ⟨a10, rfl, rfl, rfl⟩ := open_bool Ybad.underlying4 (hval 10 4 v10 rfl rfl) h10
  clear hA0 hV0 hval0
  refine (walk a0 a1 a2 a3 a4 len4 cap4 Z4 a5 a6 a7 len7 cap7 Z7 a8 len8 cap8 Z8 a9 a10 W (bounds_u8 w0) (bounds_u16 w1) (bounds_u32 w2) (bounds_u16 w3) (bounds_u16 w5) (bounds_u16 w6) (bounds_u8 w9) A4 A7 A8 M4 M7 M8 41 _ (block_lt_of_cell hg1) hg1).mono fun e W' ⟨he, bel⟩ => ?_
  subst he
  exact ⟨_, rfl, _, _, _, [], _, [.cell 1 0], hW', trodAll_mk1 (shut_bool Ybad.underlying4 _), (trodAll_cons_mk (shut_int Ybad.underlying5 w0) (trodAll_cons_mk (shut_int Ybad.underlying22 w1) (trodAll_cons_mk (shut_int Ybad.underlying23 w2) (trodAll_cons_mk (shut_int Ybad.underlying22 w3) (trodAll_cons_mk (Below.trod laidOut (by kernel_rfl) (of_decide_eq_true (by kernel_rfl)) k4 bel lt4) (trodAll_cons_mk (shut_int Ybad.underlying22 w5) (trodAll_cons_mk (shut_int Ybad.underlying22 w6) (trodAll_cons_mk (Below.trod laidOut (by kernel_rfl) (of_decide_eq_true (by kernel_rfl)) k7 bel lt7) (trodAll_cons_mk (Below.trod laidOut (by kernel_rfl) (of_decide_eq_true (by kernel_rfl)) k8 bel lt8) (trodAll_cons_mk (shut_int Ybad.underlying5 w9) (trodAll_cons_mk (shut_bool Ybad.underlying4 _) trodAll_mk0))))))))))), vars_read enc (var?_below bel gShort (block_lt_of_cell hg1) hve) trivial _, bel.frame _, fun h => by cases h⟩

theorem over : Rows.LawS1966ARoundTripSaid :=
  OpenClaim.holds_of_wide 3 Ybad.f3 rfl rfl rfl rfl rfl rfl rfl ⟨rfl, rfl, rfl, rfl, rfl⟩ rfl rfl rfl rfl rfl (by kernel_rfl) Ybad.func3 (by kernel_rfl)
    (of_decide_eq_true (by kernel_rfl)) (by unfold Func.isWrapper; first | (rw [if_pos (by decide +kernel)]; kernel_rfl) | (rw [if_neg (by decide +kernel)]; exact ⟨rfl, rfl⟩))
    (fun os started H enc _ => lifted os started H enc)

/-- THE CARD. -/
theorem proved : Rows.LawS1966ARoundTripCardSaid :=
  Claim7.holds_tied_plain_at .later [] [.sentinel] true (true, "980ae96128454cb922f45a9b399150637539486bdee7a66e1aaa80014c6d7884") true
    over (fun _ h => by cases h) (by kernel_rfl) (fun _ h => by cases h) lawS1966ARoundTrip_row_tie rfl ⟨rfl, rfl⟩ (by kernel_rfl) rfl
    (fun f fn hf hfn => by
      obtain rfl : f = 3 := Option.some.inj ((show Ybad.prog.funcNamed Rows.lawS1966ARoundTripRow.func = some 3 by kernel_rfl).symm.trans hf) |>.symm
      obtain rfl : fn = Ybad.f3 := (Option.some.inj (Ybad.func3.symm.trans hfn)).symm
      exact ⟨by kernel_rfl, fun j t ht => by
        have h := Array.all_eq_true_iff_forall_mem.1 (show (Ybad.f3.params.all fun t => !Ybad.prog.wantsStandIn t) = true by kernel_rfl) t (Array.mem_of_getElem? ht)
        have h' : Ybad.prog.wantsStandIn t = false := by simpa using h
        exact h'⟩)
    (by kernel_rfl)
end Go.Proofs.YbulkanrqDoor.lawS1966ARoundTrip
