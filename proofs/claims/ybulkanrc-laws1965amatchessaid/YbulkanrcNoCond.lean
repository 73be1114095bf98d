/-
  THE WALK of LawS1965ANoConditions.
-/
import Derived.Test.YbulkanrcTags
import Derived.Deep.RegionLaw
namespace Go.Proofs.Ybulkanrc
open Go.RowKit Go.Maps

theorem Yba.info9 : (Yba.prog.info? 9).map (fun i => (i.zero, i.size, i.bytes)) = some (some (.string ByteArray.empty), 1, 16) := by kernel_rfl

/-- append onto a slice of the call's own, as one step of a region that draws. -/
theorem step_append_at {P : Program} {ops : Array Oper} {o : Oper} {a : Act} {w : World} {K : Act → World → Prop} {Q : Exit → Act → World → Prop} {E : Prop}
    (hg : o.guard = none) (s x : Operand) (t : TypeId) (hop : o.op = Op.call { callee := Callee.builtin Builtin.append, args := #[s, x], argTypes := #[t, t] })
    (base : Nat) (e : TypeId) (i : TypeInfo) (z : Value) (size bytes : Nat) (ht : P.underlying t = some (.slice e)) (hi : P.info? e = some i) (hz : i.zero = some z)
    (hsize : i.size = size) (hby : i.bytes = bytes) (hzs : z.cells.size = size) (hsz : 0 < size)
    (v : Value) (n : Nat) (xs : List Value) (hs : a.eval s = v) (hown : w.ownsRow base e size v n xs)
    (ad : Addr) (m c : Nat) (news : List Value) (hx : a.eval x = .slice (some ad) m c) (hl : news.length = m * size) (hnews : ∀ j u, news[j]? = some u → w.cell? (ad.add j) = some u) (h1 : ∀ u ∈ news, u.oneCell' = true)
    (h63 : n + m ≤ maxLen) (hbytes : (n + m) * bytes ≤ 140737488355328) (hbase : base ≤ w.heap.size)
    (hK : ∀ v' w', w'.ownsRow base e size v' (n + m) (xs ++ news) → w.grownBy w' v.ownBlock → (v'.ownBlock = v.ownBlock ∨ v'.ownBlock = some w.heap.size) → K (a.put o.dst v') w') :
    if Region.wanted o (yielded ops a.tmps) = true then Oper.wp P o a w K Q else E := by
  have hw : Region.wanted o (yielded ops a.tmps) = true := by simp [Region.wanted, hg]
  rw [if_pos hw]
  obtain ⟨v', w', hr, h2, h3, h4, h5⟩ := run_append_own_at (P := P) w base t o.type e i z size bytes ht hi hz hsize hby hzs hsz v n xs hown ad m c news hl hnews h1 h63 hbytes hbase
  unfold Oper.wp execOp
  simp only [hop, resolve, invoke, builtin, Sem.run_bind, Sem.run_pure, Result.andThen_ok, List.map_toArray, List.map_cons, List.map_nil, hs, hx, hr]
  exact hK v' w' h2 h3 h5

/-- The value of a row of strings: a slice. -/
theorem row_shape {w : World} {base : Nat} {v : Value} {n : Nat} {xs : List Value} (h : w.ownsRow base 9 1 v n xs) : ∃ a c, v = .slice a n c := by
  rcases h.2 with ⟨e, hl⟩ | ⟨g, cap, cur, e, _⟩
  · exact ⟨none, 0, by rw [e, hl]⟩
  · exact ⟨_, _, e⟩

theorem wrap_tmod4 (z : Int) (h0 : 0 ≤ z) (h1 : z ≤ 255) : ∃ m : Nat, (IntKind.i64.wrap z).tmod 4 = (m : Int) ∧ m < 4 := by
  have e : IntKind.i64.wrap z = z := by rw [IntKind.wrap_i64]; omega
  refine ⟨(z % 4).toNat, ?_, by omega⟩
  rw [e, Int.tmod_eq_emod_of_nonneg h0]; omega

/-- What an append onto row i0 + k and the store of it at name k do together. -/
theorem row_step {wr wa w1 : World} {base B n N i0 : Nat} {v : Nat → Value} {xs : Nat → List ByteArray} {p : Nat → Bool} {k : Nat} {v' : Value} {s : ByteArray} (hF : Fam wr base v xs N) (hT : Tie wr B n (fun k => v (i0 + k)) p)
    (hk3 : k < 3) (hN : i0 + k < N) (hB : B < base) (hwa : wr.grownBy wa none) (hown : w1.ownsRow base 9 1 v' ((xs (i0 + k)).length + 1) ((xs (i0 + k)).map Value.string ++ [.string s])) (hgrow : wa.grownBy w1 (v (i0 + k)).ownBlock)
    (hloc : v'.ownBlock = (v (i0 + k)).ownBlock ∨ v'.ownBlock = some wa.heap.size) (hn : n < maxLen) :
    ∃ av cv w2, v' = .slice av ((xs (i0 + k)).length + 1) cv ∧ (Instr.mapUpdate 27 (.map (some B)) (.string (nm k)) v').run Yba.prog w1 = .ok () w2 ∧
      Fam w2 base (put v (i0 + k) v') (put xs (i0 + k) (xs (i0 + k) ++ [s])) N ∧ Tie w2 B (n + 1) (fun j => put v (i0 + k) v' (i0 + j)) (put p k true) ∧ w1.grownBy w2 (some B) ∧
      (∀ j, j < wr.heap.size → j ≠ B → some j ≠ (v (i0 + k)).ownBlock → w2.heap[j]? = wr.heap[j]?) ∧ wr.heap.size ≤ w2.heap.size ∧ (∀ w0 B', B' ≤ B → B ≤ wr.heap.size → Below B' w0 wr → Below B' w0 w2) := by
  have hg : wr.grownBy w1 (v (i0 + k)).ownBlock := (hwa.but _).trans hgrow
  have hrow : ∀ q, (v (i0 + k)).ownBlock = some q → base ≤ q := fun q hq => ((hF.1 _ hN).lt q hq).1
  have hT1 : Tie w1 B n (fun k => v (i0 + k)) p := hT.kept hg (fun e => by have := hrow B e.symm; omega)
  obtain ⟨av, cv, ev⟩ := row_shape hown
  have hF1 : Fam w1 base (put v (i0 + k) v') (put xs (i0 + k) (xs (i0 + k) ++ [s])) N := hF.append hN rfl hg hown (by
    rcases hloc with e | e
    · exact .inl e
    · exact .inr ⟨_, e, hwa.size⟩)
  obtain ⟨w2, hrun, hT2, hg2⟩ := hT1.store hn hk3 av ((xs (i0 + k)).length + 1) cv
  refine ⟨av, cv, w2, ev, by rw [ev]; exact hrun, hF1.keptLow hg2 hB, ?_, hg2, fun j hj hjB hjr => (hg2.block j (Nat.lt_of_lt_of_le hj hg.size) (fun e => by cases e; exact hjB rfl)).trans (hg.block j hj hjr),
    Nat.le_trans hg.size hg2.size, fun w0 B' h1 h2 h3 => (h3.grown hg (by omega) (fun q hq => by have := hrow q hq; omega)).grown hg2 (by have := hg.size; omega) (fun q hq => by cases hq; exact h1)⟩
  have e : (fun j => put v (i0 + k) v' (i0 + j)) = put (fun k => v (i0 + k)) k v' := by
    funext j
    unfold put
    by_cases e : j = k
    · simp [e]
    · simp [e]
  rw [e, ev]; exact hT2

theorem Tie.congr {w : World} {b n : Nat} {vv vv' : Nat → Value} {p : Nat → Bool} (h : Tie w b n vv p) (he : ∀ k, k < 3 → vv k = vv' k) : Tie w b n vv' p := by
  obtain ⟨D, h1, h2, h3⟩ := h
  exact ⟨D, h1, fun k hk => by rw [← he k hk]; exact h2 k hk, h3⟩

/-- hasTags of an empty map. -/
theorem tags_empty {wr w1 : World} {base B n tb : Nat} {v : Nat → Value} {xs : Nat → List ByteArray} {p : Nat → Bool} {o : Obj} (htb : tb = wr.heap.size) (hF : Fam wr base v xs 6) (hT : Tie wr B n (fun k => v (0 + k)) p)
    (hv3 : ∀ k, k < 3 → v (3 + k) = .slice none 0 0) (hxl : ∀ i, i < 6 → (xs i).length ≤ 1000000) (ho : (wr.alloc o).cell? ⟨wr.heap.size, 8, none⟩ = some (.map (some B))) (hb1 : Below (wr.alloc o).heap.size (wr.alloc o) w1) :
    Calls Yba.prog 8 #[.pointer (some ⟨tb, 0, none⟩), .map (some w1.heap.size)] (w1.alloc (.map #[] 0)) fun e w' => e = .returned (.bool true) ∧ Below wr.heap.size wr w' := by
  subst htb
  have hg : wr.grownBy (w1.alloc (.map #[] 0)) none := ((World.grownBy_alloc wr o none).trans (below_grown hb1)).trans (World.grownBy_alloc w1 _ none)
  have hs : wr.heap.size + 1 ≤ w1.heap.size := by have := hb1.size; simp at this; exact this
  have hc : (w1.alloc (.map #[] 0)).cell? ⟨wr.heap.size, 8, none⟩ = some (.map (some B)) := by
    have h1 : w1.cell? ⟨wr.heap.size, 8, none⟩ = some (.map (some B)) := (hb1.cell (p := ⟨wr.heap.size, 8, none⟩) (by simp)).trans ho
    exact (((Below.refl _ _).alloc (Nat.le_refl _) _ : Below w1.heap.size w1 (w1.alloc (.map #[] 0))).cell (p := ⟨wr.heap.size, 8, none⟩) (by show wr.heap.size < w1.heap.size; omega)).trans h1
  refine (tags_any wr.heap.size (w1.alloc (.map #[] 0)) base v xs 6 (hF.keptNone hg) 0 3 (by omega) (by omega) B n p (hT.kept hg (by simp)) w1.heap.size 0 (fun _ => false) ((Tie.made w1 _ (fun _ _ => rfl)).congr (fun k hk => (hv3 k hk).symm)) hxl hc true
    ⟨fun _ k _ h => absurd h Bool.noConfusion, fun _ => rfl⟩).mono fun e w' ⟨he, hb⟩ => ⟨he, ?_⟩
  have hb0 : Below wr.heap.size wr (w1.alloc (.map #[] 0)) := ⟨hg.os, hg.tape, hg.output, hg.size, fun k hk => hg.block k hk (by simp)⟩
  exact hb0.trans (hb.mono hg.size)

variable {N : Nat → Int} {A : Nat → Option Addr} {L C : Nat → Nat} {Z : Nat → Nat → Int}

set_option maxHeartbeats 2000000 in
theorem nocond_small (a : Option Addr) (len cap : Nat) (w : World) (hE : Entries w a len N A L C Z) (hm : len ≤ 300) (hL : ∀ i, i < len → L i ≤ 300) :
    Calls Yba.prog 4 #[.slice a len cap] w fun e w' => e = .returned (.bool true) ∧ Below w.heap.size w w' := by
  have HE := hid hE
  have HL := hid hL
  obtain ⟨i0, hi, hz0, hz1, hz2⟩ := info_parts Yba.info9
  have hmm := @run_makeMap Yba.prog
  have HB := hid (big_no a len cap w hE hm hL)
  clear hE hL
  go_enter Yba.func4, Yba.ntmps4
  go_wp2_with (go_at_call 5; refine HB.out.mono ?_; rintro e w' ⟨rfl, hw⟩; cases hw.symm)
  clear HB
  go_loopw [15] (fun i wr => ∃ j : Nat, ∃ v : Nat → Value, ∃ xs : Nat → List ByteArray, ∃ n : Nat, ∃ p : Nat → Bool, j ≤ len ∧ i = .int .i64 j ∧ Below w.heap.size w wr ∧ w.heap.size < wr.heap.size ∧
      Fam wr (w.heap.size + 1) v xs 6 ∧ Tie wr w.heap.size n (fun k => v (0 + k)) p ∧ (∀ k, k < 3 → v (3 + k) = .slice none 0 0) ∧ (∀ i, i < 6 → (xs i).length ≤ 300 * j) ∧ n ≤ 300 * j)
    (fun i _ => len - (intOf i).toNat)
  case atStart =>
    refine ⟨0, fun _ => .slice none 0 0, fun _ => [], 0, fun _ => false, Nat.zero_le _, rfl, (Below.refl _ _).alloc (Nat.le_refl _) _, by simp, ⟨fun i _ => World.ownsRow_nil _ _ _ _, fun i j _ _ _ => .inl rfl⟩, Tie.made w _ (fun _ _ => rfl), fun _ _ => rfl, fun _ _ => Nat.zero_le _, Nat.le_refl _⟩
  case round =>
    obtain ⟨j, v, xs, n, p, hj, rfl, hb, hsz, hF, hT, hv3, hxl, hn⟩ := hrel
    by_cases hlt : j < len
    · obtain ⟨b, off, e0, hbl, h1, h2, hN, hBy⟩ := HE.out.at hb hlt
      have hb1 : b < wr.heap.size := by omega
      have h3 := HL.out j hlt
      obtain ⟨k, hk, hk3⟩ : ∃ k : Nat, N j % 3 = (k : Int) ∧ k < 3 := ⟨(N j % 3).toNat, by omega, by omega⟩
      have HBy := hid hBy
      have HF := hid hF
      have HT := hid hT
      have HX := hid hxl
      have HB := hid hb
      have HV := hid hv3
      rw [e0]
      clear hBy hF hT hxl hb hv3
      go_wp2
      rw [hk]
      clear h1 h2 hk hN
      go_loopw [26] (fun i wr => ∃ q : Nat, ∃ v : Nat → Value, ∃ xs : Nat → List ByteArray, ∃ n : Nat, ∃ p : Nat → Bool, q ≤ L j ∧ i = .int .i64 q ∧ Below w.heap.size w wr ∧ w.heap.size < wr.heap.size ∧
          Fam wr (w.heap.size + 1) v xs 6 ∧ Tie wr w.heap.size n (fun k => v (0 + k)) p ∧ (∀ k, k < 3 → v (3 + k) = .slice none 0 0) ∧ (∀ i, i < 6 → (xs i).length ≤ 300 * j + q) ∧ n ≤ 300 * j + q)
        (fun i _ => L j - (intOf i).toNat)
      case atStart => exact ⟨0, v, xs, n, p, Nat.zero_le _, rfl, HB.out.alloc (by omega) _, by simp; omega, HF.out.alloc _, HT.out.kept (World.grownBy_alloc _ _ none) (by simp), HV.out, HX.out, hn⟩
      case round =>
        clear HF HT HX HB HV hn hsz
        obtain ⟨q, v, xs, n, p, hq, rfl, hb, hsz, hF, hT, hv3, hxl, hn⟩ := hrel
        by_cases hql : q < L j
        · obtain ⟨b2, off2, e2, hb2, hcz, hzr⟩ : ∃ b off, A j = some ⟨b, off, none⟩ ∧ b < wr.heap.size ∧ wr.cell? ⟨b, off + q, none⟩ = some (.int .u8 (Z j q)) ∧ 0 ≤ Z j q ∧ Z j q ≤ 255 := by
            rcases HBy.out.later (Nat.le_refl _) hb with h0 | ⟨b, off, e, h1, h2⟩
            · omega
            · exact ⟨b, off, e, h1, h2 q hql⟩
          obtain ⟨m, hm4, hm⟩ := wrap_tmod4 (Z j q) hzr.1 hzr.2
          have hxk := hxl (0 + k) (by omega)
          have HF := hid hF
          have HT := hid hT
          have HX := hid hxl
          have HB := hid hb
          have HV := hid hv3
          have hl1 : (Instr.lookup 27 (.map (some w.heap.size)) (.string (nm k)) false).run Yba.prog wr.drew = .ok (v (0 + k)) wr.drew := (Tie.kept (w' := wr.drew) hT (below_grown ((Below.refl _ _).drew)) (by simp)).look hk3
          have hl2 : (Instr.lookup 27 (.map (some w.heap.size)) (.string (nm k)) false).run Yba.prog (wr.alloc (.cells #[.string (vl m)] 9)).drew = .ok (v (0 + k)) (wr.alloc (.cells #[.string (vl m)] 9)).drew :=
            (Tie.kept (w' := (wr.alloc (.cells #[.string (vl m)] 9)).drew) hT (below_grown ((Below.refl _ _).alloc (Nat.le_refl _) _).drew) (by simp)).look hk3
          rw [e2]
          clear hF hT hxl hb hv3
          go_wp2
          go_region_law (first
            | (refine step_append_at rfl (.tmp 36) (.tmp 41) 24 rfl (w.heap.size + 1) 9 i0 (.string ByteArray.empty) 1 16 Yba.underlying24 hi hz0 hz1 hz2 rfl (by decide) (v (0 + k)) _ _ (by simp [Act.eval]) ((HF.out.1 (0 + k) (by omega)).alloc _) ⟨wr.heap.size, 0, none⟩ 1 1 [.string (vl m)] (by simp [Act.eval]) rfl (cell_one_new wr (.string (vl m)) 9) (by intro u hu; simp at hu; subst hu; rfl) (by unfold maxLen; omega) (by omega) (by simp; omega) ?_; intro v' w1 hown' hgrow hloc; obtain ⟨av, cv, w2, ev, hrun2, hF2, hT2, hg2, hbl2, hsz2, hbw2⟩ := row_step HF.out HT.out hk3 (by omega) (by omega) (below_grown ((Below.refl _ _).alloc (Nat.le_refl _) (.cells #[.string (vl m)] 9)).drew) hown' hgrow hloc (by unfold maxLen; omega); subst ev; simp only [Nat.zero_add] at hrun2; clear hown' hgrow hloc; have HF2 := hid hF2; have HT2 := hid hT2; have HG2 := hid hg2; have HBL := hid hbl2; have HBW := hid hbw2; clear hF2 hT2 hg2 hbl2 hbw2)
            | (go_simp; go_at_call 7; refine (name_any k _ hk3).mono ?_; rintro e w' ⟨rfl, rfl⟩)
            | (go_simp; go_at_call 6; refine (val_any m _ hm).mono ?_; rintro e w' ⟨rfl, rfl⟩))
          all_goals
            go_wp2
            go_roundw
            case rel =>
              refine ⟨q + 1, _, _, n + 1, _, by omega, by go_num, ?_, by omega, HF2.out, HT2.out, fun i hi => ?_, fun i hi => ?_, by omega⟩
              · exact HBW.out w _ (Nat.le_refl _) (by omega) HB.out
              · rw [put_other v (by omega)]; exact HV.out i hi
              · by_cases e : i = 0 + k
                · subst e; rw [put_same, List.length_append]; simp only [List.length_cons, List.length_nil]; omega
                · rw [put_other xs e]; have := HX.out i hi; omega
            case measure => simp [intOf]; omega
        · go_wp2
          go_roundw
          case rel => exact ⟨j + 1, v, xs, n, p, by omega, by go_num, hb, hsz, hF, hT, hv3, fun i hi => by have := hxl i hi; omega, by omega⟩
          case measure => simp [intOf]; omega
    · have HF := hid hF
      have HT := hid hT
      have HX := hid hxl
      have HB := hid hb
      have HV := hid hv3
      clear hF hT hxl hb hv3
      go_wp2_with fail
      refine (tags_nil _ _).mono ?_
      rintro e w1 ⟨rfl, hb1⟩
      have HB1 := hid hb1
      clear hb1
      go_wp2_with fail
      refine (tags_empty rfl HF.out HT.out HV.out (fun i hi => by have := HX.out i hi; omega) (by simp) HB1.out).mono ?_
      rintro e w2 ⟨rfl, hb2⟩
      have HB2 := hid hb2
      clear hb2
      go_wp2
      go_ret
      exact ⟨rfl, HB.out.trans (HB2.out.mono (by omega))⟩

set_option maxHeartbeats 400000 in
theorem nocond_any (a : Option Addr) (len cap : Nat) (w : World) (hE : Entries w a len N A L C Z) (hm : len ≤ 9223372036854775807) :
    Calls Yba.prog 4 #[.slice a len cap] w fun e w' => e = .returned (.bool true) ∧ Below w.heap.size w w' := by
  by_cases h : len ≤ 300 ∧ ∀ i, i < len → L i ≤ 300
  · exact nocond_small a len cap w hE h.1 h.2
  · have HB := hid (big_yes a len cap w hE hm h)
    clear hE h
    go_enter Yba.func4, Yba.ntmps4
    go_wp2_with (go_at_call 5; refine HB.out.mono ?_; rintro e w' ⟨rfl, hw⟩; cases hw.symm)
    go_ret
    exact ⟨rfl, Below.refl _ _⟩
end Go.Proofs.Ybulkanrc
