/-
  THE WALK of LawS1965AMatches.
-/
import Derived.Test.YbulkanrcState
namespace Go.Proofs.Ybulkanrc
open Go.RowKit Go.Maps

theorem cell_one_at (w : World) (x : Value) (t : TypeId) (g : Nat) (hg : g = w.heap.size) : ∀ j u, [x][j]? = some u → (w.alloc (.cells #[x] t)).cell? ((⟨g, 0, none⟩ : Addr).add j) = some u := by
  subst hg; exact cell_one_new w x t
theorem size_set (w : World) (b k : Nat) (u : Value) : w.heap.size = (w.setCell ⟨b, k, none⟩ u).heap.size := by simp [World.setCell]
theorem str_one (s : ByteArray) : ∀ u ∈ [Value.string s], u.oneCell' = true := by intro u hu; simp at hu; subst hu; rfl

/-- Two rows, one string more in each: still alike; the others as they were. -/
theorem pair_step {xs xs1 : Nat → List ByteArray} {a b k : Nat} {s : ByteArray} (hab : a + 3 ≤ b) (h : ∀ j, j < 3 → xs (b + j) = xs (a + j)) (hk : k < 3) (h1 : put xs (a + k) (xs (a + k) ++ [s]) = xs1) :
    ∀ j, j < 3 → put xs1 (b + k) (xs1 (b + k) ++ [s]) (b + j) = put xs1 (b + k) (xs1 (b + k) ++ [s]) (a + j) := by
  intro j hj
  have hb : ∀ j, j < 3 → xs1 (b + j) = xs (b + j) := fun j hj => by rw [← h1]; exact put_other xs (by omega) _
  by_cases e : j = k
  · subst e
    have ha : xs1 (a + j) = xs (a + j) ++ [s] := by rw [← h1]; exact put_same _ _ _
    rw [put_same, put_other xs1 (show a + j ≠ b + j by omega), hb j hj, ha, h j hj]
  · have ha : xs1 (a + j) = xs (a + j) := by rw [← h1]; exact put_other xs (by omega) _
    rw [put_other xs1 (show b + j ≠ b + k by omega), put_other xs1 (show a + j ≠ b + k by omega), hb j hj, ha, h j hj]
theorem rest_step {α : Type} {f f1 : Nat → α} {i j x : Nat} {p q : α} (h1 : put f i p = f1) (hi : x ≠ i) (hj : x ≠ j) : put f1 j q x = f x := by
  subst h1
  rw [put_other _ hj, put_other _ hi]

/-- hasTags at the end. -/
theorem St.tags {w0 wr : World} {B M n : Nat} {v : Nat → Value} {xs : Nat → List ByteArray} {p1 pw p2 : Nat → Bool} (h : St w0 wr B (some M) v xs p1 pw p2 n) (hn : n ≤ 1000000) {o : Obj} (ho : (wr.alloc o).cell? ⟨wr.heap.size, 8, none⟩ = some (.map (some (B + 3))))
    (c : Bool) (hc : c = true ↔ ∀ k, k < 3 → p2 k = true → Meet (xs (3 + k)) (xs (9 + k))) :
    Calls Yba.prog 8 #[.pointer (some ⟨wr.heap.size, 0, none⟩), .map (some M)] (wr.alloc o) fun e w' => e = .returned (.bool c) ∧ St w0 w' B (some M) v xs p1 pw p2 n := by
  have h' := h.kept (World.grownBy_alloc wr o none)
  refine (tags_any wr.heap.size (wr.alloc o) (B + 4) v xs 12 h'.fam 3 9 (by omega) (by omega) (B + 3) n p1 h'.th M n p2 (h'.wm M rfl).2 (fun i hi => Nat.le_trans (h'.len i hi) hn) ho c hc).mono fun e w' ⟨he, hb⟩ => ⟨he, h'.kept (below_grown hb)⟩

/-- Where the strings of two rows lie, told by letters. -/
theorem St.two {w0 wr : World} {B n : Nat} {M : Option Nat} {v : Nat → Value} {xs : Nat → List ByteArray} {p1 pw p2 : Nat → Bool} (h : St w0 wr B M v xs p1 pw p2 n) {i j : Nat} (hi : i < 12) (hj : j < 12) :
    ∃ a l c S a' l' c' S', v i = .slice a l c ∧ v j = .slice a' l' c' ∧ l ≤ n ∧ l' ≤ n ∧ Strs wr a l S ∧ Strs wr a' l' S' ∧ (Meet (xs i) (xs j) ↔ ∃ i, i < l ∧ ∃ j, j < l' ∧ eqs (S i) (S' j) = true) := by
  obtain ⟨a, c, e, hS⟩ := h.fam.strs hi
  obtain ⟨a', c', e', hS'⟩ := h.fam.strs hj
  exact ⟨a, _, c, _, a', _, c', _, e, e', h.len i hi, h.len j hj, hS, hS', Iff.rfl⟩

theorem Strs.at {w : World} {a : Option Addr} {n : Nat} {S : Nat → ByteArray} (h : Strs w a n S) {k : Nat} (hk : k < n) : ∃ b off, a = some ⟨b, off, none⟩ ∧ w.cell? ⟨b, off + k, none⟩ = some (.string (S k)) := by
  rcases h with h | ⟨b, off, e, _, h⟩
  · omega
  · exact ⟨b, off, e, h k hk⟩

theorem bool_of (P : Prop) : ∃ c : Bool, c = true ↔ P := by
  by_cases h : P
  · exact ⟨true, fun _ => h, fun _ => rfl⟩
  · exact ⟨false, fun e => absurd e Bool.noConfusion, fun e => absurd e h⟩

theorem val_is (k : Nat) (w : World) (hk : k < 4) : Calls Yba.prog 6 #[.int .i64 (k : Int)] w fun e w' => e = .returned (.string (vl k)) ∧ w = w' :=
  (val_any k w hk).mono fun _ _ h => ⟨h.1, h.2.symm⟩
theorem name_is (k : Nat) (w : World) (hk : k < 3) : Calls Yba.prog 7 #[.int .i64 (k : Int)] w fun e w' => e = .returned (.string (nm k)) ∧ w = w' :=
  (name_any k w hk).mono fun _ _ h => ⟨h.1, h.2.symm⟩

variable {N : Nat → Int} {A : Nat → Option Addr} {L C : Nat → Nat} {Z : Nat → Nat → Int} {N' : Nat → Int} {A' : Nat → Option Addr} {L' C' : Nat → Nat} {Z' : Nat → Nat → Int}

set_option maxRecDepth 100000 in
set_option maxHeartbeats 4000000 in
theorem matches_small (a : Option Addr) (len cap : Nat) (a' : Option Addr) (len' cap' : Nat) (w : World) (hE : Entries w a len N A L C Z) (hm : len ≤ 300) (hL : ∀ i, i < len → L i ≤ 300)
    (hE' : Entries w a' len' N' A' L' C' Z') (hm' : len' ≤ 300) (hL' : ∀ i, i < len' → L' i ≤ 300) :
    Calls Yba.prog 3 #[.slice a len cap, .slice a' len' cap'] w fun e w' => e = .returned (.bool true) ∧ Below w.heap.size w w' := by
  have HE := hid hE
  have HL := hid hL
  have HE' := hid hE'
  have HL' := hid hL'
  obtain ⟨i0, hi, hz0, hz1, hz2⟩ := info_parts Yba.info9
  have hmm := @run_makeMap Yba.prog
  have HB := hid (big_no a len cap w hE hm hL)
  have HB' := hid (big_no a' len' cap' w hE' hm' hL')
  clear hE hL hE' hL'
  go_enter Yba.func3, Yba.ntmps3
  go_wp2_with fail
  refine HB.out.mono ?_
  rintro e w' ⟨rfl, hw⟩
  cases hw.symm
  go_wp2_with fail
  refine HB'.out.mono ?_
  rintro e w' ⟨rfl, hw⟩
  cases hw.symm
  clear HB HB'
  go_wp2
  rw [show w.heap.size + 1 + 1 + 1 = w.heap.size + 3 from rfl, show w.heap.size + 1 + 1 = w.heap.size + 2 from rfl]
  go_loopw [41] (fun i wr => ∃ j : Nat, ∃ v : Nat → Value, ∃ xs : Nat → List ByteArray, ∃ p1 : Nat → Bool, ∃ n : Nat, j ≤ len ∧ i = .int .i64 j ∧ St w wr w.heap.size none v xs p1 (fun _ => false) (fun _ => false) n ∧ n ≤ 600 * j ∧
      (∀ k, k < 3 → xs (3 + k) = xs k) ∧ ∀ k, 6 ≤ k → v k = .slice none 0 0 ∧ xs k = [])
    (fun i _ => len - (intOf i).toNat)
  case atStart => exact ⟨0, _, _, _, 0, Nat.zero_le _, rfl, St.start w, Nat.le_refl _, fun _ _ => rfl, fun _ _ => ⟨rfl, rfl⟩⟩
  case round =>
    obtain ⟨j, v, xs, p1, n, hj, rfl, hS, hn, hP, hR⟩ := hrel
    by_cases hlt : j < len
    · obtain ⟨b, off, e0, hbl, h1, h2, hN, hBy⟩ := HE.out.at hS.below hlt
      have hb1 : b < wr.heap.size := Nat.lt_of_lt_of_le hbl hS.below.size
      have h3 := HL.out j hlt
      obtain ⟨k, hk, hk3⟩ : ∃ k : Nat, N j % 3 = (k : Int) ∧ k < 3 := ⟨(N j % 3).toNat, by omega, by omega⟩
      have HBy := hid hBy
      have HS := hid hS
      have HP := hid hP
      have HR := hid hR
      rw [e0]
      clear hBy hS hP hR
      go_wp2
      try rw [hk]
      clear h1 h2 hk hN
      go_loopw [52] (fun i wr => ∃ q : Nat, ∃ v : Nat → Value, ∃ xs : Nat → List ByteArray, ∃ p1 : Nat → Bool, ∃ n : Nat, q ≤ L j ∧ i = .int .i64 q ∧ St w wr w.heap.size none v xs p1 (fun _ => false) (fun _ => false) n ∧ n ≤ 600 * j + 2 * q ∧
          (∀ k, k < 3 → xs (3 + k) = xs k) ∧ ∀ k, 6 ≤ k → v k = .slice none 0 0 ∧ xs k = [])
        (fun i _ => L j - (intOf i).toNat)
      case atStart => exact ⟨0, v, xs, p1, n, Nat.zero_le _, rfl, HS.out.kept (World.grownBy_alloc _ _ none), hn, HP.out, HR.out⟩
      case round =>
        clear HS HP HR hn
        obtain ⟨q, v, xs, p1, n, hq, rfl, hS, hn, hP, hR⟩ := hrel
        by_cases hql : q < L j
        · obtain ⟨b2, off2, e2, hb2, hcz, hzr⟩ : ∃ b off, A j = some ⟨b, off, none⟩ ∧ b < wr.heap.size ∧ wr.cell? ⟨b, off + q, none⟩ = some (.int .u8 (Z j q)) ∧ 0 ≤ Z j q ∧ Z j q ≤ 255 := by
            rcases HBy.out.later (Nat.le_refl _) hS.below with h0 | ⟨b, off, e, h1, h2⟩
            · omega
            · exact ⟨b, off, e, h1, h2 q hql⟩
          obtain ⟨m, hm4, hm⟩ : ∃ m : Nat, Z j q % 4 = (m : Int) ∧ m < 4 := ⟨(Z j q % 4).toNat, by omega, by omega⟩
          have hxk := hS.len k (by omega)
          have hxk3 := hS.len (3 + k) (by omega)
          have hbig := hS.big
          have hcell : wr.cell? ⟨w.heap.size, k, none⟩ = some (v k) := cell_three hS.hv (three_at v hk3)
          have HS := hid hS
          have HP := hid hP
          have HR := hid hR
          rw [e2]
          clear hS hP hR
          go_wp2_with (first
            | (go_at_call 6; rw [hm4]; refine (val_is m _ hm).mono ?_; rintro e w' ⟨rfl, rfl⟩)
            | (at_builtin; refine wpList_append_own_at _ rfl (.tmp 63) (.tmp 65) 24 rfl (w.heap.size + 4) 9 i0 (.string ByteArray.empty) 1 16 Yba.underlying24 hi hz0 hz1 hz2 rfl (by decide) (v k) _ _ rfl ((HS.out.fam.1 k (by omega)).alloc _) ⟨wr.heap.size, 0, none⟩ 1 1 [.string (vl m)] rfl rfl (cell_one_new wr (.string (vl m)) 9) (str_one _) (by unfold maxLen; omega) (by omega) (by simp; omega) ?_; intro v' w1 hown' hgrow hnil hloc; obtain ⟨⟨av, cv, ev⟩, c1, f1, hlt1, hS1⟩ := HS.out.hvStored hk3 (World.grownBy_alloc wr (.cells #[.string (vl m)] 9) none) hown' hgrow hloc; subst ev; clear hown' hgrow hnil hloc; obtain ⟨v1, hv1⟩ : ∃ v1, put v k (.slice av ((xs k).length + 1) cv) = v1 := ⟨_, rfl⟩; obtain ⟨xs1, hx1⟩ : ∃ xs1, put xs k (xs k ++ [vl m]) = xs1 := ⟨_, rfl⟩; rw [hv1, hx1] at hS1; have HV1 := hid hv1; have HX1 := hid hx1; have hxk1 := hS1.len (3 + k) (by omega); have hbig1 := hS1.big; rw [← size_set] at hbig1; have HS1 := hid hS1; clear hS1 hv1 hx1)
            | (go_at_call 7; refine (name_is k _ hk3).mono ?_; rintro e w' ⟨rfl, rfl⟩)
            | (at_lookup; refine wpList_lookup_tok _ rfl _ _ rfl (w.heap.size + 3) _ _ _ k hk3 rfl rfl HS1.out.th ?_)
            | (at_builtin; refine wpList_append_own_at _ rfl (.tmp 74) (.tmp 76) 24 rfl (w.heap.size + 4) 9 i0 (.string ByteArray.empty) 1 16 Yba.underlying24 hi hz0 hz1 hz2 rfl (by decide) (v1 (3 + k)) _ _ rfl ((HS1.out.fam.1 (3 + k) (by omega)).alloc _) ⟨w1.heap.size, 0, none⟩ 1 1 [.string (vl m)] rfl rfl (cell_one_at _ (.string (vl m)) 9 _ (size_set _ _ _ _)) (str_one _) (by unfold maxLen; omega) (by omega) (by simp; omega) ?_; intro v' w2 hown' hgrow hnil hloc; obtain ⟨⟨av2, cv2, ev⟩, hT2, hN2⟩ := HS1.out.thStored hk3 (World.grownBy_alloc _ (.cells #[.string (vl m)] 9) none) hown' hgrow hloc; subst ev; have HT2 := hid hT2; have HN2 := hid hN2; clear hown' hgrow hnil hloc hT2 hN2)
            | (at_mapUpdate; refine wpList_update_tok _ rfl _ _ _ rfl (w.heap.size + 3) _ _ _ k hk3 rfl rfl av2 _ cv2 rfl HT2.out (by unfold maxLen; omega) ?_; intro w3 hT3 hg3; have HS3 := hid (HN2.out w3 hT3 hg3); clear hT3 hg3))
          go_roundw
          case rel =>
            refine ⟨q + 1, _, _, _, _, by omega, by go_num, HS3.out, by omega, fun j' hj' => ?_, fun x hx => ⟨?_, ?_⟩⟩
            · have h := pair_step (a := 0) (b := 3) (k := k) (s := vl m) (xs := xs) (xs1 := xs1) (by omega) (fun j hj => by rw [Nat.zero_add]; exact HP.out j hj) hk3 (by rw [Nat.zero_add]; exact HX1.out) j' hj'
              rw [Nat.zero_add] at h
              exact h
            · rw [rest_step HV1.out (by omega) (by omega)]; exact (HR.out x hx).1
            · rw [rest_step HX1.out (by omega) (by omega)]; exact (HR.out x hx).2
          case measure => simp [intOf]; omega
        · go_wp2
          go_roundw
          case rel => exact ⟨j + 1, v, xs, p1, n, by omega, by go_num, hS, by omega, hP, hR⟩
          case measure => simp [intOf]; omega
    · have HS := hid hS
      have HP := hid hP
      have HR := hid hR
      have hbig := hS.big
      clear hS hP hR HE HL
      go_wp2
      have hM0 := hid (HS.out.withMap (fun k hk => (HR.out (9 + k) (by omega)).1))
      have hP0 : ∀ k, k < 3 → xs (9 + k) = xs (6 + k) := fun k hk => by rw [(HR.out (9 + k) (by omega)).2, (HR.out (6 + k) (by omega)).2]
      have HP0 := hid hP0
      obtain ⟨M, hMe⟩ : ∃ M, wr.heap.size = M := ⟨_, rfl⟩
      have hn0 : n ≤ 180000 := by omega
      rw [hMe] at hM0 ⊢
      clear HS HR hP0 hn hbig hMe
      go_loopw [83] (fun i wr => ∃ j : Nat, ∃ v : Nat → Value, ∃ xs : Nat → List ByteArray, ∃ p : Nat → Bool, ∃ n : Nat, j ≤ len' ∧ i = .int .i64 j ∧ St w wr w.heap.size (some M) v xs p1 p p n ∧ n ≤ 180000 + 601 * j ∧
          (∀ k, k < 3 → xs (3 + k) = xs k) ∧ ∀ k, k < 3 → xs (9 + k) = xs (6 + k))
        (fun i _ => len' - (intOf i).toNat)
      case atStart => exact ⟨0, v, xs, fun _ => false, n, Nat.zero_le _, rfl, hM0.out, by omega, HP.out, HP0.out⟩
      case round =>
        clear hM0 HP HP0 hn0
        obtain ⟨j, v, xs, p, n, hj, rfl, hS, hn, hP, hQ⟩ := hrel
        by_cases hlt : j < len'
        · obtain ⟨b, off, e0, hbl, h1, h2, hN, hBy⟩ := HE'.out.at hS.below hlt
          have hb1 : b < wr.heap.size := Nat.lt_of_lt_of_le hbl hS.below.size
          have h3 := HL'.out j hlt
          obtain ⟨k, hk, hk3⟩ : ∃ k : Nat, N' j % 3 = (k : Int) ∧ k < 3 := ⟨(N' j % 3).toNat, by omega, by omega⟩
          have HBy := hid hBy
          have HS := hid hS
          have HP := hid hP
          have HQ := hid hQ
          have hbig := hS.big
          have hMl := (hS.wm M rfl).2.lt
          obtain ⟨cw, fw, hSw⟩ := (hS.kept (World.grownBy_alloc wr (.cells #[.int .u8 (N' j), .slice (A' j) (L' j) (C' j)] 30) none)).wpStored hk3
          obtain ⟨aw, dw, ew, _⟩ := hSw.fam.strs (i := 9 + k) (by omega)
          have EW := hid ew
          have HSw := hid hSw
          rw [e0]
          clear hBy hS hP hQ hSw ew
          go_wp2_with (first
            | (go_at_call 7; refine (name_is k _ hk3).mono ?_; rintro e w' ⟨rfl, rfl⟩)
            | (at_lookup; refine wpList_lookup_tok _ rfl _ _ rfl M _ _ _ k hk3 rfl rfl (HSw.out.wm M rfl).2 ?_; rw [EW.out])
            | (at_mapUpdate; refine wpList_update_tok _ rfl _ _ _ rfl M _ _ _ k hk3 rfl rfl aw _ dw rfl (HSw.out.wm M rfl).2 (by unfold maxLen; omega) ?_; intro w3 hT3 hg3; have ce := cell_e (by omega) hMl hg3; have HS3 := hid (HSw.out.wmSame (by rw [EW.out]; exact hT3) hg3); have hsz3 := hg3.size; clear hT3 hg3))
          try rw [hk]
          have hp3 : put p k true k = true := put_same _ _ _
          obtain ⟨p', hp'⟩ : ∃ p', put p k true = p' := ⟨_, rfl⟩
          rw [hp'] at HS3 hp3
          clear h1 h2 hk hN cw fw HSw EW HS ce hp' hMl hsz3 hbig
          go_loopw [103] (fun i wr => ∃ q : Nat, ∃ v : Nat → Value, ∃ xs : Nat → List ByteArray, ∃ n : Nat, q ≤ L' j ∧ i = .int .i64 q ∧ St w wr w.heap.size (some M) v xs p1 p' p' n ∧ n ≤ 180000 + 601 * j + 1 + 2 * q ∧
              (∀ k, k < 3 → xs (3 + k) = xs k) ∧ ∀ k, k < 3 → xs (9 + k) = xs (6 + k))
            (fun i _ => L' j - (intOf i).toNat)
          case atStart => exact ⟨0, v, xs, n + 1, Nat.zero_le _, rfl, HS3.out, by omega, HP.out, HQ.out⟩
          case round =>
            clear HS3 HP HQ hn
            obtain ⟨q, v, xs, n, hq, rfl, hS, hn, hP, hQ⟩ := hrel
            by_cases hql : q < L' j
            · obtain ⟨b2, off2, e2, hb2, hcz, hzr⟩ : ∃ b off, A' j = some ⟨b, off, none⟩ ∧ b < wr.heap.size ∧ wr.cell? ⟨b, off + q, none⟩ = some (.int .u8 (Z' j q)) ∧ 0 ≤ Z' j q ∧ Z' j q ≤ 255 := by
                rcases HBy.out.later (Nat.le_refl _) hS.below with h0 | ⟨b, off, e, h1, h2⟩
                · omega
                · exact ⟨b, off, e, h1, h2 q hql⟩
              obtain ⟨m, hm4, hm⟩ : ∃ m : Nat, Z' j q % 4 = (m : Int) ∧ m < 4 := ⟨(Z' j q % 4).toNat, by omega, by omega⟩
              have hxk := hS.len (6 + k) (by omega)
              have hbig := hS.big
              have hcell : wr.cell? ⟨w.heap.size + 1, k, none⟩ = some (v (6 + k)) := cell_three hS.wv (three_at (fun j => v (6 + j)) hk3)
              have HS := hid hS
              have HP := hid hP
              have HQ := hid hQ
              rw [e2]
              clear hS hP hQ
              go_wp2_with (first
                | (go_at_call 6; rw [hm4]; refine (val_is m _ hm).mono ?_; rintro e w' ⟨rfl, rfl⟩)
                | (at_builtin; refine wpList_append_own_at _ rfl (.tmp 114) (.tmp 116) 24 rfl (w.heap.size + 4) 9 i0 (.string ByteArray.empty) 1 16 Yba.underlying24 hi hz0 hz1 hz2 rfl (by decide) (v (6 + k)) _ _ rfl ((HS.out.fam.1 (6 + k) (by omega)).alloc _) ⟨wr.heap.size, 0, none⟩ 1 1 [.string (vl m)] rfl rfl (cell_one_new wr (.string (vl m)) 9) (str_one _) (by unfold maxLen; omega) (by omega) (by simp; omega) ?_; intro v' w1 hown' hgrow hnil hloc; obtain ⟨⟨av, cv, ev⟩, c1, f1, hlt1, hS1⟩ := HS.out.wvStored hk3 (World.grownBy_alloc wr (.cells #[.string (vl m)] 9) none) hown' hgrow hloc; subst ev; clear hown' hgrow hnil hloc; obtain ⟨v1, hv1⟩ : ∃ v1, put v (6 + k) (.slice av ((xs (6 + k)).length + 1) cv) = v1 := ⟨_, rfl⟩; obtain ⟨xs1, hx1⟩ : ∃ xs1, put xs (6 + k) (xs (6 + k) ++ [vl m]) = xs1 := ⟨_, rfl⟩; rw [hv1, hx1] at hS1; have HV1 := hid hv1; have HX1 := hid hx1; have hxk1 := hS1.len (9 + k) (by omega); have hbig1 := hS1.big; rw [← size_set] at hbig1; have HS1 := hid hS1; clear hS1 hv1 hx1)
                | (at_lookup; refine wpList_lookup_tok _ rfl _ _ rfl M _ _ _ k hk3 rfl rfl (HS1.out.wm M rfl).2 ?_)
                | (at_builtin; refine wpList_append_own_at _ rfl (.tmp 123) (.tmp 125) 24 rfl (w.heap.size + 4) 9 i0 (.string ByteArray.empty) 1 16 Yba.underlying24 hi hz0 hz1 hz2 rfl (by decide) (v1 (9 + k)) _ _ rfl ((HS1.out.fam.1 (9 + k) (by omega)).alloc _) ⟨w1.heap.size, 0, none⟩ 1 1 [.string (vl m)] rfl rfl (cell_one_at _ (.string (vl m)) 9 _ (size_set _ _ _ _)) (str_one _) (by unfold maxLen; omega) (by omega) (by simp; omega) ?_; intro v' w2 hown' hgrow hnil hloc; obtain ⟨⟨av2, cv2, ev⟩, hT2, hN2⟩ := HS1.out.wmStored hk3 (World.grownBy_alloc _ (.cells #[.string (vl m)] 9) none) hown' hgrow hloc; subst ev; have HT2 := hid hT2; have HN2 := hid hN2; clear hown' hgrow hnil hloc hT2 hN2)
                | (at_mapUpdate; refine wpList_update_tok _ rfl _ _ _ rfl M _ _ _ k hk3 rfl rfl av2 _ cv2 rfl HT2.out (by unfold maxLen; omega) ?_; intro w3 hT3 hg3; have HS3 := hid (HN2.out w3 hT3 hg3); clear hT3 hg3))
              go_roundw
              case rel =>
                have hS3 := HS3.out
                rw [put_id hp3] at hS3
                refine ⟨q + 1, _, _, _, by omega, by go_num, hS3, by omega, fun j' hj' => ?_, fun j' hj' => ?_⟩
                · rw [rest_step HX1.out (by omega) (by omega), rest_step HX1.out (by omega) (by omega)]; exact HP.out j' hj'
                · exact pair_step (a := 6) (b := 9) (k := k) (s := vl m) (xs := xs) (xs1 := xs1) (by omega) HQ.out hk3 HX1.out j' hj'
              case measure => simp [intOf]; omega
            · go_wp2
              go_roundw
              case rel => exact ⟨j + 1, v, xs, p', n, by omega, by go_num, hS, by omega, hP, hQ⟩
              case measure => simp [intOf]; omega
        · have HS := hid hS
          have HP := hid hP
          have HQ := hid hQ
          have hbig := hS.big
          clear hS hP hQ HE' HL' hmm hi hz0 hz1 hz2
          obtain ⟨c, hc⟩ := bool_of (∀ k, k < 3 → p k = true → Meet (xs (3 + k)) (xs (9 + k)))
          have HC := hid hc
          clear hc
          go_wp2_with fail
          refine (HS.out.tags (by omega) (by simp) c HC.out).mono ?_
          rintro e w5 ⟨rfl, hS5⟩
          have HS5 := hid hS5
          clear hS5 HS hbig
          go_wp2
          go_loop [25, 26] (fun x i => ∃ k : Nat, ∃ b : Bool, k ≤ 3 ∧ i = .int .i64 k ∧ x = .bool b ∧ (b = true ↔ ∀ k', k' < k → p k' = true → Meet (xs k') (xs (6 + k')))) (fun _ i => 3 - (intOf i).toNat)
          case atStart => exact ⟨0, true, by omega, rfl, rfl, ⟨fun _ k' h => absurd h (Nat.not_lt_zero _), fun _ => rfl⟩⟩
          case round =>
            obtain ⟨k, b, hk, rfl, rfl, hbm⟩ := hrel
            have HBM := hid hbm
            clear hbm
            by_cases hk3 : k < 3
            · have hcp : w5.cell? ⟨w.heap.size + 2, k, none⟩ = some (.bool (p k)) := cell_three HS5.out.wp (three_at (fun j => Value.bool (p j)) hk3)
              obtain ⟨pk, hpk⟩ : ∃ pk, p k = pk := ⟨_, rfl⟩
              rw [hpk] at hcp
              have HPK := hid hpk
              clear hpk
              cases pk
              · go_wp2
                go_round
                case rel =>
                  refine ⟨k + 1, b, by omega, by go_num, rfl, ⟨fun hb k' hk' hp => ?_, fun h => HBM.out.2 (fun k' hk' => h k' (by omega))⟩⟩
                  by_cases e : k' = k
                  · subst e; rw [HPK.out] at hp; cases hp
                  · exact HBM.out.1 hb k' (by omega) hp
                case measure => simp [intOf]; omega
              · obtain ⟨ai, li, ci, Si, aj, lj, cj, Sj, ei, ej, hli, hlj, hSi, hSj, hmt⟩ := HS5.out.two (i := k) (j := 6 + k) (by omega) (by omega)
                have hch : w5.cell? ⟨w.heap.size, k, none⟩ = some (v k) := cell_three HS5.out.hv (three_at v hk3)
                have hcw : w5.cell? ⟨w.heap.size + 1, k, none⟩ = some (v (6 + k)) := cell_three HS5.out.wv (three_at (fun j => v (6 + j)) hk3)
                rw [ei] at hch
                rw [ej] at hcw
                have HSi := hid hSi
                have HSj := hid hSj
                have HMT := hid hmt
                clear hSi hSj hmt ei ej
                go_wp2
                go_loop [27, 147] (fun f i => ∃ q : Nat, ∃ g : Bool, q ≤ li ∧ i = .int .i64 q ∧ f = .bool g ∧ (g = true ↔ ∃ i, i < q ∧ ∃ j, j < lj ∧ eqs (Si i) (Sj j) = true)) (fun _ i => li - (intOf i).toNat)
                case atStart => exact ⟨0, false, Nat.zero_le _, rfl, rfl, ⟨fun h => absurd h Bool.noConfusion, fun ⟨i, h, _⟩ => absurd h (Nat.not_lt_zero _)⟩⟩
                case round =>
                  obtain ⟨q, g, hq, rfl, rfl, hg⟩ := hrel
                  have HG := hid hg
                  clear hg
                  by_cases hqi : q < li
                  · obtain ⟨bi, oi, e1, hci⟩ := HSi.out.at hqi
                    rw [e1] at hch ⊢
                    go_wp2
                    go_loop [27, 155] (fun f i => ∃ r : Nat, ∃ g' : Bool, r ≤ lj ∧ i = .int .i64 r ∧ f = .bool g' ∧ (g' = true ↔ (g = true ∨ ∃ j, j < r ∧ eqs (Si q) (Sj j) = true))) (fun _ i => lj - (intOf i).toNat)
                    case atStart => exact ⟨0, g, Nat.zero_le _, rfl, rfl, ⟨fun h => .inl h, fun h => by rcases h with h | ⟨j, h, _⟩; exact h; omega⟩⟩
                    case round =>
                      obtain ⟨r, g', hr, rfl, rfl, hg'⟩ := hrel
                      have HG' := hid hg'
                      clear hg'
                      by_cases hrj : r < lj
                      · obtain ⟨bj, oj, e2, hcj⟩ := HSj.out.at hrj
                        rw [e2] at hcw ⊢
                        go_wp2
                        · have hqe : ((Si q).toList == (Sj r).toList) = true := by assumption
                          go_round
                          case rel => exact ⟨r + 1, true, by omega, by go_num, rfl, ⟨fun _ => .inr ⟨r, by omega, eqs_t hqe⟩, fun _ => rfl⟩⟩
                          case measure => simp [intOf]; omega
                        · have hqe : ((Si q).toList == (Sj r).toList) = false := by assumption
                          go_round
                          case rel =>
                            refine ⟨r + 1, g', by omega, by go_num, rfl, ⟨fun h => ?_, fun h => HG'.out.2 ?_⟩⟩
                            · rcases HG'.out.1 h with h | ⟨j, hj, h⟩
                              · exact .inl h
                              · exact .inr ⟨j, by omega, h⟩
                            · rcases h with h | ⟨j, hj, h⟩
                              · exact .inl h
                              · by_cases e : j = r
                                · subst e; rw [eqs_f hqe] at h; cases h
                                · exact .inr ⟨j, by omega, h⟩
                          case measure => simp [intOf]; omega
                      · go_wp2
                        go_round
                        case rel =>
                          refine ⟨q + 1, g', by omega, by go_num, rfl, ⟨fun h => ?_, fun h => HG'.out.2 ?_⟩⟩
                          · rcases HG'.out.1 h with h | ⟨j, hj, h⟩
                            · obtain ⟨i, hi, h⟩ := HG.out.1 h
                              exact ⟨i, by omega, h⟩
                            · exact ⟨q, by omega, j, by omega, h⟩
                          · obtain ⟨i, hi, j, hj, h⟩ := h
                            by_cases e : i = q
                            · subst e; exact .inr ⟨j, by omega, h⟩
                            · exact .inl (HG.out.2 ⟨i, by omega, j, hj, h⟩)
                        case measure => simp [intOf]; omega
                  · have hgm : g = true ↔ Meet (xs k) (xs (6 + k)) := by
                      rw [HMT.out, HG.out]
                      exact ⟨fun ⟨i, hi, h⟩ => ⟨i, by omega, h⟩, fun ⟨i, hi, h⟩ => ⟨i, by omega, h⟩⟩
                    have HGM := hid hgm
                    clear hgm HG
                    cases g
                    · go_wp2
                      go_round
                      case rel =>
                        refine ⟨k + 1, false, by omega, by go_num, rfl, ⟨fun h => absurd h Bool.noConfusion, fun h => ?_⟩⟩
                        exact HGM.out.2 (h k (by omega) HPK.out)
                      case measure => simp [intOf]; omega
                    · go_wp2
                      go_round
                      case rel =>
                        refine ⟨k + 1, b, by omega, by go_num, rfl, ⟨fun hb k' hk' hp => ?_, fun h => HBM.out.2 (fun k' hk' => h k' (by omega))⟩⟩
                        by_cases e : k' = k
                        · subst e; exact HGM.out.1 rfl
                        · exact HBM.out.1 hb k' (by omega) hp
                      case measure => simp [intOf]; omega
            · have hbc : c = b := by
                have h1 : c = true ↔ b = true := by
                  rw [HC.out, HBM.out]
                  constructor
                  · intro h k' hk' hp
                    have := h k' (by omega) hp
                    rw [HP.out k' (by omega), HQ.out k' (by omega)] at this
                    exact this
                  · intro h k' hk' hp
                    rw [HP.out k' (by omega), HQ.out k' (by omega)]
                    exact h k' (by omega) hp
                cases c <;> cases b <;> simp_all
              subst hbc
              have hcc : (c == c) = true := by simp
              go_wp2
              go_ret
              exact ⟨by simp, HS5.out.below⟩
end Go.Proofs.Ybulkanrc
