/-
  THE STATE of LawS1965AMatches on its way: three arrays, one or two maps, twelve rows of strings. No walk.
-/
import Derived.Test.YbulkanrcNoCond
namespace Go.Proofs.Ybulkanrc
open Go.RowKit Go.Maps

/-- Block B: hv · B + 1: wv · B + 2: wp · B + 3: the map th · M: the map wm, once it is made. Rows: 0, 1, 2: hv's · 3, 4, 5: th's · 6, 7, 8: wv's · 9, 10, 11: wm's. -/
structure St (w0 wr : World) (B : Nat) (M : Option Nat) (v : Nat → Value) (xs : Nat → List ByteArray) (p1 pw p2 : Nat → Bool) (n : Nat) : Prop where
  below : Below B w0 wr
  big : B + 4 ≤ wr.heap.size
  fam : Fam wr (B + 4) v xs 12
  hv : wr.heap[B]? = some (.cells #[v 0, v 1, v 2] 25)
  wv : wr.heap[B + 1]? = some (.cells #[v 6, v 7, v 8] 25)
  wp : wr.heap[B + 2]? = some (.cells #[.bool (pw 0), .bool (pw 1), .bool (pw 2)] 26)
  th : Tie wr (B + 3) n (fun k => v (3 + k)) p1
  wm : ∀ m, M = some m → B + 4 ≤ m ∧ Tie wr m n (fun k => v (9 + k)) p2
  len : ∀ i, i < 12 → (xs i).length ≤ n

/-! ### an array of three in a block -/
theorem three_at {α : Type} (f : Nat → α) {k : Nat} (hk : k < 3) : (#[f 0, f 1, f 2] : Array α)[k]? = some (f k) := by
  rcases (by omega : k = 0 ∨ k = 1 ∨ k = 2) with rfl | rfl | rfl <;> rfl

theorem three_set {α : Type} (f : Nat → α) {k : Nat} (hk : k < 3) (i : Nat) (x : α) : (#[f i, f (i + 1), f (i + 2)] : Array α).setIfInBounds k x = #[put f (i + k) x i, put f (i + k) x (i + 1), put f (i + k) x (i + 2)] := by
  rcases (by omega : k = 0 ∨ k = 1 ∨ k = 2) with rfl | rfl | rfl <;> simp [put]

theorem cell_three {w : World} {b : Nat} {C : Array Value} {t : TypeId} {k : Nat} {x : Value} (h : w.heap[b]? = some (.cells C t)) (hx : C[k]? = some x) : w.cell? ⟨b, k, none⟩ = some x := by
  simp [World.cell?, h, hx]
theorem free_three {w : World} {b : Nat} {C : Array Value} {t : TypeId} (h : w.heap[b]? = some (.cells C t)) (k : Nat) : w.frozen? ⟨b, k, none⟩ = false := by
  simp [World.frozen?, h]
theorem set_three {w : World} {b : Nat} {C : Array Value} {t : TypeId} (h : w.heap[b]? = some (.cells C t)) (k : Nat) (u : Value) : (w.setCell ⟨b, k, none⟩ u).heap[b]? = some (.cells (C.setIfInBounds k u) t) := by
  have hlt := lt_of_block h
  have h' : w.heap[b] = .cells C t := by simpa [Array.getElem?_eq_getElem hlt] using h
  show (w.heap.modify b _)[b]? = _
  rw [Array.getElem?_eq_getElem (by simpa using hlt), Array.getElem_modify_self, h']
  rfl
theorem grown_set (w : World) (b k : Nat) (u : Value) : w.grownBy (w.setCell ⟨b, k, none⟩ u) (some b) :=
  ⟨rfl, rfl, rfl, by simp [World.setCell], fun j _ hj => Below.heap_setCell _ _ _ _ (fun e => hj (by rw [e]))⟩

theorem Fam.notMap {w : World} {base n : Nat} {v : Nat → Value} {xs : Nat → List ByteArray} (h : Fam w base v xs n) {i : Nat} (hi : i < n) {b : Nat} {es : Array MapEntry} {cl : Nat} (hm : w.heap[b]? = some (.map es cl)) : some b ≠ (v i).ownBlock := by
  rcases (h.1 i hi).2 with ⟨e, _⟩ | ⟨g, cap, cur, e, _, hg', _⟩
  · rw [e]; simp [Value.ownBlock]
  · rw [e]; intro e'
    simp only [Value.ownBlock, Option.some.injEq] at e'
    subst e'
    rw [hm] at hg'; cases hg'

variable {w0 wr wa w1 w2 : World} {B n : Nat} {M : Option Nat} {v : Nat → Value} {xs : Nat → List ByteArray} {p1 pw p2 : Nat → Bool}

theorem St.kept (h : St w0 wr B M v xs p1 pw p2 n) (hg : wr.grownBy w1 none) : St w0 w1 B M v xs p1 pw p2 n where
  below := h.below.grown hg (by have := h.big; omega) (fun _ h => by cases h)
  big := Nat.le_trans h.big hg.size
  fam := h.fam.keptNone hg
  hv := (hg.block _ (by have := h.big; omega) (by simp)).trans h.hv
  wv := (hg.block _ (by have := h.big; omega) (by simp)).trans h.wv
  wp := (hg.block _ (by have := h.big; omega) (by simp)).trans h.wp
  th := h.th.kept hg (by simp)
  wm := fun m hm => ⟨(h.wm m hm).1, (h.wm m hm).2.kept hg (by simp)⟩
  len := h.len

theorem St.mono (h : St w0 wr B M v xs p1 pw p2 n) {n' : Nat} (hn : n ≤ n') : St w0 wr B M v xs p1 pw p2 n' where
  below := h.below
  big := h.big
  fam := h.fam
  hv := h.hv
  wv := h.wv
  wp := h.wp
  th := h.th.mono hn
  wm := fun m hm => ⟨(h.wm m hm).1, (h.wm m hm).2.mono hn⟩
  len := fun i hi => Nat.le_trans (h.len i hi) hn

/-- The world when the loops begin. -/
theorem St.start (w : World) : St w ((((w.alloc (.cells #[.slice none 0 0, .slice none 0 0, .slice none 0 0] 25)).alloc (.cells #[.slice none 0 0, .slice none 0 0, .slice none 0 0] 25)).alloc (.cells #[.bool false, .bool false, .bool false] 26)).alloc (.map #[] 0))
    w.heap.size none (fun _ => .slice none 0 0) (fun _ => []) (fun _ => false) (fun _ => false) (fun _ => false) 0 where
  below := ((((Below.refl _ _).alloc (Nat.le_refl _) _).alloc (by simp) _).alloc (by simp; omega) _).alloc (by simp; omega) _
  big := by simp
  fam := ⟨fun i _ => World.ownsRow_nil _ _ _ _, fun i j _ _ _ => .inl rfl⟩
  hv := by
    rw [(MapKept.heap_alloc _ _).2 _ (by simp; omega), (MapKept.heap_alloc _ _).2 _ (by simp; omega), (MapKept.heap_alloc _ _).2 _ (by simp)]
    exact (MapKept.heap_alloc _ _).1
  wv := by
    rw [(MapKept.heap_alloc _ _).2 _ (by simp), (MapKept.heap_alloc _ _).2 _ (by simp)]
    have := (MapKept.heap_alloc (w.alloc (.cells #[.slice none 0 0, .slice none 0 0, .slice none 0 0] 25)) (.cells #[.slice none 0 0, .slice none 0 0, .slice none 0 0] 25)).1
    simpa using this
  wp := by
    rw [(MapKept.heap_alloc _ _).2 _ (by simp)]
    have := (MapKept.heap_alloc ((w.alloc (.cells #[.slice none 0 0, .slice none 0 0, .slice none 0 0] 25)).alloc (.cells #[.slice none 0 0, .slice none 0 0, .slice none 0 0] 25)) (.cells #[.bool false, .bool false, .bool false] 26)).1
    simpa using this
  th := by
    have := Tie.made (((w.alloc (.cells #[.slice none 0 0, .slice none 0 0, .slice none 0 0] 25)).alloc (.cells #[.slice none 0 0, .slice none 0 0, .slice none 0 0] 25)).alloc (.cells #[.bool false, .bool false, .bool false] 26)) (fun _ => false) (fun _ _ => rfl)
    simpa using this
  wm := fun m hm => by cases hm
  len := fun _ _ => Nat.le_refl _

/-- The second map is made. -/
theorem St.withMap (h : St w0 wr B none v xs p1 pw p2 n) (hv : ∀ k, k < 3 → v (9 + k) = .slice none 0 0) : St w0 (wr.alloc (.map #[] 0)) B (some wr.heap.size) v xs p1 pw (fun _ => false) n :=
  let h' := h.kept (World.grownBy_alloc wr (.map #[] 0) none)
  { below := h'.below, big := h'.big, fam := h'.fam, hv := h'.hv, wv := h'.wv, wp := h'.wp, th := h'.th, len := h'.len,
    wm := fun m hm => by
      cases hm
      exact ⟨h.big, ((Tie.made wr _ (fun _ _ => rfl)).congr (fun k hk => (hv k hk).symm)).mono (Nat.zero_le _)⟩ }

theorem put_id {α : Type} {f : Nat → α} {k : Nat} {x : α} (h : f k = x) : put f k x = f := by
  funext j
  unfold put
  by_cases e : j = k
  · rw [if_pos e, e, h]
  · rw [if_neg e]

/-- The entry's copy, behind the stores into wp and wm. -/
theorem cell_e {wr w3 : World} {B k m : Nat} {x y u : Value} {t : TypeId} (hB : B + 2 < wr.heap.size) (hm : m < wr.heap.size) (hg : ((wr.alloc (.cells #[x, y] t)).setCell ⟨B + 2, k, none⟩ u).grownBy w3 (some m)) : w3.cell? ⟨wr.heap.size, 1, none⟩ = some y := by
  have e1 : ((wr.alloc (.cells #[x, y] t)).setCell ⟨B + 2, k, none⟩ u).heap[wr.heap.size]? = some (.cells #[x, y] t) := by
    rw [Below.heap_setCell _ _ _ _ (by show wr.heap.size ≠ B + 2; omega)]
    exact (MapKept.heap_alloc _ _).1
  have e2 : w3.heap[wr.heap.size]? = some (.cells #[x, y] t) := (hg.block _ (lt_of_block e1) (fun e => by cases e; omega)).trans e1
  exact cell_three e2 rfl

/-- What an append onto row i leaves alone. -/
structure Grew (wr w1 : World) (B : Nat) (M : Option Nat) : Prop where
  low : ∀ j, j < B + 4 → w1.heap[j]? = wr.heap[j]?
  wm : ∀ m, M = some m → w1.heap[m]? = wr.heap[m]?
  size : wr.heap.size ≤ w1.heap.size
  below : ∀ w0, Below B w0 wr → Below B w0 w1

theorem St.grew (h : St w0 wr B M v xs p1 pw p2 n) {i : Nat} (hi : i < 12) (hg : wr.grownBy w1 (v i).ownBlock) : Grew wr w1 B M where
  low := fun j hj => hg.block j (by have := h.big; omega) (fun e => by have := ((h.fam.1 i hi).lt j e.symm).1; omega)
  wm := fun m hm => by
    obtain ⟨es, cl, hb⟩ := (h.wm m hm).2.block
    exact hg.block m (h.wm m hm).2.lt (h.fam.notMap hi hb)
  size := hg.size
  below := fun w0 hb => hb.grown hg (by have := h.big; omega) (fun q hq => by have := ((h.fam.1 i hi).lt q hq).1; omega)

theorem len_put {i : Nat} (h : ∀ j, j < 12 → (xs j).length ≤ n) (s : ByteArray) (hi : i < 12) : ∀ j, j < 12 → (put xs i (xs i ++ [s]) j).length ≤ n + 1 := by
  intro j hj
  by_cases e : j = i
  · subst e; rw [put_same, List.length_append]; have := h j hj; simp only [List.length_cons, List.length_nil]; omega
  · rw [put_other xs e]; have := h j hj; omega

theorem Tie.same {w w' : World} {b n : Nat} {vv : Nat → Value} {p : Nat → Bool} (h : Tie w b n vv p) (hb : w'.heap[b]? = w.heap[b]?) : Tie w' b n vv p := by
  obtain ⟨D, ⟨es, cl, h1, h2⟩, h3⟩ := h
  exact ⟨D, ⟨es, cl, hb.trans h1, h2⟩, h3⟩

/-- hv[k] = append(hv[k], s): behind the store. -/
theorem St.hvStored (h : St w0 wr B M v xs p1 pw p2 n) {k : Nat} (hk : k < 3) {v' : Value} {s : ByteArray} (hwa : wr.grownBy wa none) (hown : w1.ownsRow (B + 4) 9 1 v' ((xs k).length + 1) ((xs k).map Value.string ++ [.string s]))
    (hgrow : wa.grownBy w1 (v k).ownBlock) (hloc : v'.ownBlock = (v k).ownBlock ∨ v'.ownBlock = some wa.heap.size) :
    (∃ av cv, v' = .slice av ((xs k).length + 1) cv) ∧ w1.cell? ⟨B, k, none⟩ = some (v k) ∧ w1.frozen? ⟨B, k, none⟩ = false ∧ B < w1.heap.size ∧
      St w0 (w1.setCell ⟨B, k, none⟩ v') B M (put v k v') (put xs k (xs k ++ [s])) p1 pw p2 (n + 1) := by
  have hg : wr.grownBy w1 (v k).ownBlock := (hwa.but _).trans hgrow
  have G := h.grew (i := k) (by omega) hg
  have hB : w1.heap[B]? = some (.cells #[v 0, v 1, v 2] 25) := (G.low B (by omega)).trans h.hv
  have hF1 : Fam w1 (B + 4) (put v k v') (put xs k (xs k ++ [s])) 12 := h.fam.append (i := k) (by omega) rfl hg hown (by
    rcases hloc with e | e
    · exact .inl e
    · exact .inr ⟨_, e, hwa.size⟩)
  have gs := grown_set w1 B k v'
  have other : ∀ j, j ≠ B → (w1.setCell ⟨B, k, none⟩ v').heap[j]? = w1.heap[j]? := fun j hj => Below.heap_setCell _ _ _ _ hj
  have hs := lt_of_block hB
  refine ⟨row_shape hown, cell_three hB (three_at v hk), free_three hB k, hs, ?_⟩
  exact {
    below := (G.below w0 h.below).setCell (Nat.le_refl _) _
    big := Nat.le_trans (Nat.le_trans h.big G.size) gs.size
    fam := hF1.keptLow gs (by omega)
    hv := by rw [set_three hB, three_set v hk 0]; simp
    wv := by
      rw [other _ (by omega), G.low _ (by omega), h.wv, put_other v (by omega), put_other v (by omega), put_other v (by omega)]
    wp := by rw [other _ (by omega), G.low _ (by omega)]; exact h.wp
    th := ((h.th.same ((other _ (by omega)).trans (G.low _ (by omega)))).mono (Nat.le_succ _)).congr (fun j hj => (put_other v (by omega) _).symm)
    wm := fun m hm => ⟨(h.wm m hm).1, (((h.wm m hm).2.same ((other _ (by have := (h.wm m hm).1; omega)).trans (G.wm m hm))).mono (Nat.le_succ _)).congr (fun j hj => (put_other v (by omega) _).symm)⟩
    len := len_put h.len s (by omega) }

/-- wv[k] = append(wv[k], s): behind the store. -/
theorem St.wvStored (h : St w0 wr B M v xs p1 pw p2 n) {k : Nat} (hk : k < 3) {v' : Value} {s : ByteArray} (hwa : wr.grownBy wa none) (hown : w1.ownsRow (B + 4) 9 1 v' ((xs (6 + k)).length + 1) ((xs (6 + k)).map Value.string ++ [.string s]))
    (hgrow : wa.grownBy w1 (v (6 + k)).ownBlock) (hloc : v'.ownBlock = (v (6 + k)).ownBlock ∨ v'.ownBlock = some wa.heap.size) :
    (∃ av cv, v' = .slice av ((xs (6 + k)).length + 1) cv) ∧ w1.cell? ⟨B + 1, k, none⟩ = some (v (6 + k)) ∧ w1.frozen? ⟨B + 1, k, none⟩ = false ∧ B + 1 < w1.heap.size ∧
      St w0 (w1.setCell ⟨B + 1, k, none⟩ v') B M (put v (6 + k) v') (put xs (6 + k) (xs (6 + k) ++ [s])) p1 pw p2 (n + 1) := by
  have hg : wr.grownBy w1 (v (6 + k)).ownBlock := (hwa.but _).trans hgrow
  have G := h.grew (i := 6 + k) (by omega) hg
  have hB : w1.heap[B + 1]? = some (.cells #[v 6, v 7, v 8] 25) := (G.low (B + 1) (by omega)).trans h.wv
  have hF1 : Fam w1 (B + 4) (put v (6 + k) v') (put xs (6 + k) (xs (6 + k) ++ [s])) 12 := h.fam.append (i := 6 + k) (by omega) rfl hg hown (by
    rcases hloc with e | e
    · exact .inl e
    · exact .inr ⟨_, e, hwa.size⟩)
  have gs := grown_set w1 (B + 1) k v'
  have other : ∀ j, j ≠ B + 1 → (w1.setCell ⟨B + 1, k, none⟩ v').heap[j]? = w1.heap[j]? := fun j hj => Below.heap_setCell _ _ _ _ hj
  have hs := lt_of_block hB
  refine ⟨row_shape hown, cell_three hB (three_at (fun j => v (6 + j)) hk), free_three hB k, hs, ?_⟩
  exact {
    below := (G.below w0 h.below).setCell (Nat.le_succ _) _
    big := Nat.le_trans (Nat.le_trans h.big G.size) gs.size
    fam := hF1.keptLow gs (by omega)
    hv := by
      rw [other _ (by omega), G.low _ (by omega), h.hv, put_other v (by omega), put_other v (by omega), put_other v (by omega)]
    wv := by rw [set_three hB, three_set v hk 6]
    wp := by rw [other _ (by omega), G.low _ (by omega)]; exact h.wp
    th := ((h.th.same ((other _ (by omega)).trans (G.low _ (by omega)))).mono (Nat.le_succ _)).congr (fun j hj => (put_other v (by omega) _).symm)
    wm := fun m hm => ⟨(h.wm m hm).1, (((h.wm m hm).2.same ((other _ (by have := (h.wm m hm).1; omega)).trans (G.wm m hm))).mono (Nat.le_succ _)).congr (fun j hj => (put_other v (by omega) _).symm)⟩
    len := len_put h.len s (by omega) }

theorem put_shift {α : Type} (f : Nat → α) (i k : Nat) (x : α) : put (fun j => f (i + j)) k x = fun j => put f (i + k) x (i + j) := by
  funext j
  unfold put
  by_cases e : j = k
  · simp [e]
  · simp [e]

/-- th[name] = append(th[name], s): the map ahead of the store; the state behind it. -/
theorem St.thStored (h : St w0 wr B M v xs p1 pw p2 n) {k : Nat} (hk : k < 3) {v' : Value} {s : ByteArray} (hwa : wr.grownBy wa none) (hown : w1.ownsRow (B + 4) 9 1 v' ((xs (3 + k)).length + 1) ((xs (3 + k)).map Value.string ++ [.string s]))
    (hgrow : wa.grownBy w1 (v (3 + k)).ownBlock) (hloc : v'.ownBlock = (v (3 + k)).ownBlock ∨ v'.ownBlock = some wa.heap.size) :
    (∃ av cv, v' = .slice av ((xs (3 + k)).length + 1) cv) ∧ Tie w1 (B + 3) n (fun k => v (3 + k)) p1 ∧
      ∀ w2, Tie w2 (B + 3) (n + 1) (put (fun k => v (3 + k)) k v') (put p1 k true) → w1.grownBy w2 (some (B + 3)) → St w0 w2 B M (put v (3 + k) v') (put xs (3 + k) (xs (3 + k) ++ [s])) (put p1 k true) pw p2 (n + 1) := by
  have hg : wr.grownBy w1 (v (3 + k)).ownBlock := (hwa.but _).trans hgrow
  have G := h.grew (i := 3 + k) (by omega) hg
  have hF1 : Fam w1 (B + 4) (put v (3 + k) v') (put xs (3 + k) (xs (3 + k) ++ [s])) 12 := h.fam.append (i := 3 + k) (by omega) rfl hg hown (by
    rcases hloc with e | e
    · exact .inl e
    · exact .inr ⟨_, e, hwa.size⟩)
  refine ⟨row_shape hown, h.th.same (G.low _ (by omega)), fun w2 hT hg2 => ?_⟩
  have low : ∀ j, j < B + 3 → w2.heap[j]? = wr.heap[j]? := fun j hj => (hg2.block j (by have := h.big; have := G.size; omega) (fun e => by cases e; omega)).trans (G.low j (by omega))
  exact {
    below := (G.below w0 h.below).grown hg2 (by have := h.big; have := G.size; omega) (fun q hq => by cases hq; omega)
    big := Nat.le_trans (Nat.le_trans h.big G.size) hg2.size
    fam := hF1.keptLow hg2 (by omega)
    hv := by rw [low _ (by omega), h.hv, put_other v (by omega), put_other v (by omega), put_other v (by omega)]
    wv := by rw [low _ (by omega), h.wv, put_other v (by omega), put_other v (by omega), put_other v (by omega)]
    wp := by rw [low _ (by omega)]; exact h.wp
    th := by rw [← put_shift]; exact hT
    wm := fun m hm => ⟨(h.wm m hm).1, (((h.wm m hm).2.same ((hg2.block m (Nat.lt_of_lt_of_le (h.wm m hm).2.lt G.size) (fun e => by have := (h.wm m hm).1; cases e; omega)).trans (G.wm m hm))).mono (Nat.le_succ _)).congr (fun j hj => (put_other v (by omega) _).symm)⟩
    len := len_put h.len s (by omega) }

/-- wm[n] = append(wm[n], s): likewise. -/
theorem St.wmStored {m : Nat} (h : St w0 wr B (some m) v xs p1 pw p2 n) {k : Nat} (hk : k < 3) {v' : Value} {s : ByteArray} (hwa : wr.grownBy wa none) (hown : w1.ownsRow (B + 4) 9 1 v' ((xs (9 + k)).length + 1) ((xs (9 + k)).map Value.string ++ [.string s]))
    (hgrow : wa.grownBy w1 (v (9 + k)).ownBlock) (hloc : v'.ownBlock = (v (9 + k)).ownBlock ∨ v'.ownBlock = some wa.heap.size) :
    (∃ av cv, v' = .slice av ((xs (9 + k)).length + 1) cv) ∧ Tie w1 m n (fun k => v (9 + k)) p2 ∧
      ∀ w2, Tie w2 m (n + 1) (put (fun k => v (9 + k)) k v') (put p2 k true) → w1.grownBy w2 (some m) → St w0 w2 B (some m) (put v (9 + k) v') (put xs (9 + k) (xs (9 + k) ++ [s])) p1 pw (put p2 k true) (n + 1) := by
  have hg : wr.grownBy w1 (v (9 + k)).ownBlock := (hwa.but _).trans hgrow
  have G := h.grew (i := 9 + k) (by omega) hg
  have hF1 : Fam w1 (B + 4) (put v (9 + k) v') (put xs (9 + k) (xs (9 + k) ++ [s])) 12 := h.fam.append (i := 9 + k) (by omega) rfl hg hown (by
    rcases hloc with e | e
    · exact .inl e
    · exact .inr ⟨_, e, hwa.size⟩)
  obtain ⟨hm4, hTm⟩ := h.wm m rfl
  have hT1 := hTm.same (G.wm m rfl)
  refine ⟨row_shape hown, hT1, fun w2 hT hg2 => ?_⟩
  obtain ⟨es, cl, hb⟩ := hT1.block
  have low : ∀ j, j < B + 4 → w2.heap[j]? = wr.heap[j]? := fun j hj => (hg2.block j (by have := h.big; have := G.size; omega) (fun e => by cases e; omega)).trans (G.low j (by omega))
  exact {
    below := (G.below w0 h.below).grown hg2 (by have := h.big; have := G.size; omega) (fun q hq => by cases hq; omega)
    big := Nat.le_trans (Nat.le_trans h.big G.size) hg2.size
    fam := hF1.keptMap hg2 hb
    hv := by rw [low _ (by omega), h.hv, put_other v (by omega), put_other v (by omega), put_other v (by omega)]
    wv := by rw [low _ (by omega), h.wv, put_other v (by omega), put_other v (by omega), put_other v (by omega)]
    wp := by rw [low _ (by omega)]; exact h.wp
    th := ((h.th.same (low _ (by omega))).mono (Nat.le_succ _)).congr (fun j hj => (put_other v (by omega) _).symm)
    wm := fun m' hm' => by cases hm'; exact ⟨hm4, by rw [← put_shift]; exact hT⟩
    len := len_put h.len s (by omega) }

/-- wp[k] = true. -/
theorem St.wpStored (h : St w0 wr B M v xs p1 pw p2 n) {k : Nat} (hk : k < 3) : wr.cell? ⟨B + 2, k, none⟩ = some (.bool (pw k)) ∧ wr.frozen? ⟨B + 2, k, none⟩ = false ∧
    St w0 (wr.setCell ⟨B + 2, k, none⟩ (.bool true)) B M v xs p1 (put pw k true) p2 n := by
  have other : ∀ j, j ≠ B + 2 → (wr.setCell ⟨B + 2, k, none⟩ (.bool true)).heap[j]? = wr.heap[j]? := fun j hj => Below.heap_setCell _ _ _ _ hj
  have gs := grown_set wr (B + 2) k (.bool true)
  refine ⟨cell_three h.wp (three_at (fun j => Value.bool (pw j)) hk), free_three h.wp k, ?_⟩
  exact {
    below := h.below.setCell (by show B ≤ B + 2; omega) _
    big := Nat.le_trans h.big gs.size
    fam := h.fam.keptLow gs (by omega)
    hv := (other _ (by omega)).trans h.hv
    wv := (other _ (by omega)).trans h.wv
    wp := by
      rw [set_three h.wp]
      rcases (by omega : k = 0 ∨ k = 1 ∨ k = 2) with rfl | rfl | rfl <;> simp [put]
    th := h.th.same (other _ (by omega))
    wm := fun m hm => ⟨(h.wm m hm).1, (h.wm m hm).2.same (other _ (by have := (h.wm m hm).1; omega))⟩
    len := h.len }

/-- wm[n] = wm[n]: behind the store. -/
theorem St.wmSame {m : Nat} (h : St w0 wr B (some m) v xs p1 pw p2 n) {k : Nat} (hT : Tie w2 m (n + 1) (put (fun k => v (9 + k)) k (v (9 + k))) (put p2 k true)) (hg2 : wr.grownBy w2 (some m)) :
    St w0 w2 B (some m) v xs p1 pw (put p2 k true) (n + 1) := by
  obtain ⟨hm4, hTm⟩ := h.wm m rfl
  obtain ⟨es, cl, hb⟩ := hTm.block
  have low : ∀ j, j < B + 4 → w2.heap[j]? = wr.heap[j]? := fun j hj => hg2.block j (by have := h.big; omega) (fun e => by cases e; omega)
  exact {
    below := h.below.grown hg2 (by have := h.big; omega) (fun q hq => by cases hq; omega)
    big := Nat.le_trans h.big hg2.size
    fam := h.fam.keptMap hg2 hb
    hv := (low _ (by omega)).trans h.hv
    wv := (low _ (by omega)).trans h.wv
    wp := (low _ (by omega)).trans h.wp
    th := (h.th.same (low _ (by omega))).mono (Nat.le_succ _)
    wm := fun m' hm' => by
      cases hm'
      refine ⟨hm4, hT.congr (fun j hj => ?_)⟩
      unfold put
      by_cases e : j = k
      · simp [e]
      · simp [e]
    len := fun i hi => by have := h.len i hi; omega }
end Go.Proofs.Ybulkanrc
