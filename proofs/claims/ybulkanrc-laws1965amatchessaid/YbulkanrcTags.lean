/-
  THE WALK of (*target).hasTags.
-/
import Derived.Test.YbulkanrcFam
namespace Go.Proofs.Ybulkanrc
open Go.RowKit Go.Maps

theorem below_grown {w w' : World} (h : Below w.heap.size w w') : w.grownBy w' none := ⟨h.os, h.tape, h.output, h.size, fun k hk _ => h.block k hk⟩

/-- Some value of the first row is among the second's. -/
def Meet (xs ys : List ByteArray) : Prop := ∃ i, i < xs.length ∧ ∃ j, j < ys.length ∧ eqs (xs.getD i ByteArray.empty) (ys.getD j ByteArray.empty) = true

theorem key_inv {x : ByteArray} {k : Nat} (h : keyOf Yba.prog 9 (.string x) = some (kl k)) : x = nm k := by
  have := law.inj h (key_nm k)
  cases this; rfl

theorem mk_inv : ∀ key l, keyOf Yba.prog 9 key = some l → ∃ x, key = Value.string x := by
  intro key l h
  cases key <;> simp [keyOf, Yba.underlying9, mapKey] at h
  exact ⟨_, rfl⟩

theorem mv_inv : ∀ x y, tokE x = some y → ∃ q : Option Addr × Nat × Nat, x = Value.slice q.1 q.2.1 q.2.2 := by
  intro x y h
  cases x <;> simp [tokE] at h
  exact ⟨(_, _, _), rfl⟩

set_option maxHeartbeats 1000000 in
theorem tags_any (tb : Nat) (w : World) (base : Nat) (v : Nat → Value) (xs : Nat → List ByteArray) (n : Nat) (hF : Fam w base v xs n) (i0 j0 : Nat) (hi0 : i0 + 3 ≤ n) (hj0 : j0 + 3 ≤ n)
    (bt n1 : Nat) (p1 : Nat → Bool) (hT : Tie w bt n1 (fun k => v (i0 + k)) p1) (bm n2 : Nat) (p2 : Nat → Bool) (hM : Tie w bm n2 (fun k => v (j0 + k)) p2) (hlen : ∀ i, i < n → (xs i).length ≤ 1000000)
    (htb : w.cell? ⟨tb, 8, none⟩ = some (.map (some bt))) (c : Bool) (hc : c = true ↔ ∀ k, k < 3 → p2 k = true → Meet (xs (i0 + k)) (xs (j0 + k))) :
    Calls Yba.prog 8 #[.pointer (some ⟨tb, 0, none⟩), .map (some bm)] w fun e w' => e = .returned (.bool c) ∧ Below w.heap.size w w' := by
  obtain ⟨D, hD, hD1, hD2, hD3⟩ := hM
  have HF := hid hF
  have HT := hid hT
  have HD1 := hid hD1
  have HD2 := hid hD2
  have HD3 := hid hD3
  have HL := hid hlen
  have HC := hid hc
  have hbt : tb < w.heap.size := block_lt_of_cell htb
  have HTB := hid htb
  clear hF hT hD1 hD2 hD3 hlen hc htb
  go_enter Yba.func8, Yba.ntmps8
  go_wp2_with (at_range; refine wpList_range_own _ rfl _ 27 rfl 9 24 law Yba.underlying27 tokE bm n2 D rfl hD ?_; intro w0 hrg0 hg0 hs0)
  have hz0 : w.heap.size < w0.heap.size := by omega
  have hb0 : Below w.heap.size w w0 := ⟨hg0.os, hg0.tape, hg0.output, hg0.size, fun k hk => hg0.block k hk (by simp)⟩
  go_loopw [9] (fun _ wr => ∃ left cnt, wr.ranges Yba.prog 9 tokE bm w.heap.size n2 D left cnt ∧ Below w.heap.size w wr ∧ w.heap.size < wr.heap.size ∧ ∀ k, k < 3 → p2 k = true → left (kl k) = false → Meet (xs (i0 + k)) (xs (j0 + k)))
    (fun _ wr => wr.rangeLeft bm w.heap.size)
  case atStart => exact ⟨_, _, hrg0, hb0, hz0, fun k hk h1 h2 => by rw [HD2.out k hk, h1] at h2; cases h2⟩
  case round =>
    obtain ⟨left, cnt, hrg, hb, hz, hM⟩ := hrel
    have HRG := hid hrg
    have HB := hid hb
    have HM := hid hM
    clear hrg hb hM hrg0 hg0 hs0 hb0 hz0 hD
    go_wp2_with (at_next; refine wpList_next_ranges _ rfl _ rfl 9 law tokE Value.string (fun q : Option Addr × Nat × Nat => Value.slice q.1 q.2.1 q.2.2) mk_inv mv_inv bm w.heap.size n2 D left cnt rfl HRG.out ?done ?more)
    case done =>
      intro _ hl
      obtain rfl : c = true := HC.out.2 (fun k hk h1 => HM.out k hk h1 (hl _))
      clear hl
      go_wp2
      go_ret
      exact ⟨rfl, HB.out⟩
    case more =>
      intro x a2 m2 c2 kx d ps w1 cnt1 hkey hlk hR hat hrg1 hlt hg1 hs1 hen
      obtain ⟨k, hk, rfl⟩ := HD3.out kx (has_true_of_atKey hat)
      obtain rfl := key_inv hkey
      have hd : d = .held (v (j0 + k)) := (hat _).symm.trans (HD1.out k hk)
      subst hd
      have hv2 := tokE_inv hR
      obtain ⟨aj, cj, ej, hSj⟩ := HF.out.strs (i := j0 + k) (by omega)
      rw [ej] at hv2
      simp only [Value.slice.injEq] at hv2
      obtain ⟨rfl, rfl, rfl⟩ := hv2
      obtain ⟨ai, ci, ei, hSi⟩ := HF.out.strs (i := i0 + k) (by omega)
      have hB1 : Below w.heap.size w w1 := HB.out.grown hg1 (by omega) (fun j hj => by cases hj; exact Nat.le_refl _)
      have hT1 := hid (HT.out.kept (below_grown hB1) (by simp))
      have hk2 := HD2.out k hk
      have hhas : has D (kl k) = true := has_true_of_atKey hat
      have hpk : p2 k = true := hk2.symm.trans hhas
      have hSi1 := hid (hSi.later hB1)
      have hSj1 := hid (hSj.later hB1)
      have htb1 : w1.cell? ⟨tb, 8, none⟩ = some (.map (some bt)) := (hB1.cell (p := ⟨tb, 8, none⟩) hbt).trans HTB.out
      have hli := HL.out (i0 + k) (by omega)
      have hlj := HL.out (j0 + k) (by omega)
      have HR1 := hid hrg1
      have HB1 := hid hB1
      have HEI := hid ei
      have HSZ := hid hs1
      have hsz1 : w.heap.size < w1.heap.size := by omega
      have hbt1 : tb < w1.heap.size := by omega
      have HLT := hid hlt
      clear hkey hlk hR hat hrg1 hg1 hs1 hB1 hSi hSj ej hk2 hhas hlt ei
      go_wp2_with (first | (at_lookup; refine wpList_lookup_tok _ rfl _ _ rfl bt n1 _ p1 k hk rfl rfl (hT1.out.kept (World.grownBy_alloc _ _ none) (by simp)) ?_; rw [HEI.out]) | fail)
      by_cases hmeet : Meet (xs (i0 + k)) (xs (j0 + k))
      · refine (containsFunc_any ai _ ci _ w1.heap.size a2 _ c2 _ _ hli hlj (hSi1.out.later ((Below.refl _ _).alloc (Nat.le_refl _) _)) (hSj1.out.later ((Below.refl _ _).alloc (Nat.le_refl _) _)) (by simp) true ⟨fun _ => hmeet, fun _ => rfl⟩).mono ?_
        rintro e w2 ⟨rfl, rfl⟩
        have HMT := hid hmeet
        clear hmeet
        go_wp2
        go_roundw
        case rel =>
          refine ⟨_, _, HR1.out.alloc _, HB1.out.alloc (by omega) _, by simp; omega, fun j hj h1 h2 => ?_⟩
          by_cases e : j = k
          · subst e; exact HMT.out
          · refine HM.out j hj h1 ?_
            simp only [sameKey_ne (kl_ne hj hk e), Bool.not_false, Bool.and_true] at h2
            exact h2
        case measure =>
          have e1 := (HR1.out.alloc (.cells #[Value.slice a2 (xs (j0 + k)).length c2] 24)).left_eq
          have e2 := HRG.out.left_eq
          rw [e1, e2]; exact HLT.out
      · refine (containsFunc_any ai _ ci _ w1.heap.size a2 _ c2 _ _ hli hlj (hSi1.out.later ((Below.refl _ _).alloc (Nat.le_refl _) _)) (hSj1.out.later ((Below.refl _ _).alloc (Nat.le_refl _) _)) (by simp) false ⟨fun h => absurd h Bool.noConfusion, fun h => absurd h hmeet⟩).mono ?_
        rintro e w2 ⟨rfl, rfl⟩
        obtain rfl : c = false := by
          cases c
          · rfl
          · exact absurd (HC.out.1 rfl k hk hpk) hmeet
        clear hmeet
        go_wp2
        go_ret
        exact ⟨rfl, HB1.out.alloc (by omega) _⟩

set_option maxHeartbeats 400000 in
/-- No map at all: true. -/
theorem tags_nil (tb : Nat) (w : World) :
    Calls Yba.prog 8 #[.pointer (some ⟨tb, 0, none⟩), .map none] w fun e w' => e = .returned (.bool true) ∧ Below w.heap.size w w' := by
  have h1 := fun w : World => run_range_nilMap (P := Yba.prog) w 27 9 24 Yba.underlying27
  have h2 := fun (w : World) ty a b s => run_next_nilMap (P := Yba.prog) w ty a b s
  go_enter Yba.func8, Yba.ntmps8
  go_wp2
  refine wp_loop_rounds 1 ?_
  rw [rounds_succ]
  go_wp2
  go_ret
  exact ⟨rfl, (Below.refl _ _).alloc (Nat.le_refl _) _⟩
end Go.Proofs.Ybulkanrc
