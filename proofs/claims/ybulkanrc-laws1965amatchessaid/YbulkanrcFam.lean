/-
  A FAMILY OF ROWS OF STRINGS, no two in one block; A MAP WHOSE DATUM TELLS THE VERY SLICE VALUES. No walk.
-/
import Derived.Test.YbulkanrcBig
import Derived.Maps.RangeWalk
import Derived.Maps.AppendAt
import Derived.Maps.OwnOps
namespace Go.Proofs.Ybulkanrc
open Go.RowKit Go.Maps

/-- f, but x at i. -/
def put {α : Type} (f : Nat → α) (i : Nat) (x : α) : Nat → α := fun j => if j = i then x else f j
theorem put_same {α : Type} (f : Nat → α) (i : Nat) (x : α) : put f i x i = x := if_pos rfl
theorem put_other {α : Type} (f : Nat → α) {i j : Nat} (h : j ≠ i) (x : α) : put f i x j = f j := if_neg h

/-! ### rows -/
def Fam (w : World) (base : Nat) (v : Nat → Value) (xs : Nat → List ByteArray) (n : Nat) : Prop :=
  (∀ i, i < n → w.ownsRow base 9 1 (v i) (xs i).length ((xs i).map Value.string)) ∧ ∀ i j, i < n → j < n → i ≠ j → (v i).ownBlock = none ∨ (v i).ownBlock ≠ (v j).ownBlock

variable {w w' : World} {base n : Nat} {v : Nat → Value} {xs : Nat → List ByteArray}

theorem Fam.kept {row : Option Nat} (h : Fam w base v xs n) (hg : w.grownBy w' row) (hr : ∀ i, i < n → (v i).ownBlock = none ∨ (v i).ownBlock ≠ row) : Fam w' base v xs n :=
  ⟨fun i hi => (h.1 i hi).kept hg (hr i hi), h.2⟩

theorem Fam.keptLow {b : Nat} (h : Fam w base v xs n) (hg : w.grownBy w' (some b)) (hb : b < base) : Fam w' base v xs n :=
  h.kept hg fun i hi => by
    cases e : (v i).ownBlock with
    | none => exact .inl rfl
    | some g => exact .inr (fun e' => by have := ((h.1 i hi).lt g e).1; cases e'; omega)

theorem Fam.keptNone (h : Fam w base v xs n) (hg : w.grownBy w' none) : Fam w' base v xs n :=
  h.kept hg fun i _ => by cases (v i).ownBlock <;> simp

/-- A block that is no row of strings is none of theirs. -/
theorem Fam.keptMap {b : Nat} {es : Array MapEntry} {cl : Nat} (h : Fam w base v xs n) (hg : w.grownBy w' (some b)) (hm : w.heap[b]? = some (.map es cl)) : Fam w' base v xs n :=
  h.kept hg fun i hi => by
    rcases (h.1 i hi).2 with ⟨e, _⟩ | ⟨g, cap, cur, e, _, hg', _⟩
    · left; rw [e]; rfl
    · right; rw [e]; intro e'
      simp only [Value.ownBlock, Option.some.injEq] at e'
      subst e'
      rw [hm] at hg'; cases hg'

theorem Fam.keptIter {b : Nat} {m : Option Nat} {s1 s2 : Nat} {se : Array Nat} (h : Fam w base v xs n) (hg : w.grownBy w' (some b)) (hm : w.heap[b]? = some (.mapIter m s1 se s2)) : Fam w' base v xs n :=
  h.kept hg fun i hi => by
    rcases (h.1 i hi).2 with ⟨e, _⟩ | ⟨g, cap, cur, e, _, hg', _⟩
    · left; rw [e]; rfl
    · right; rw [e]; intro e'
      simp only [Value.ownBlock, Option.some.injEq] at e'
      subst e'
      rw [hm] at hg'; cases hg'

theorem Fam.alloc (h : Fam w base v xs n) (o : Obj) : Fam (w.alloc o) base v xs n := h.keptNone (World.grownBy_alloc w o none)

/-- A row's value, and its strings where they lie. -/
theorem Fam.strs (h : Fam w base v xs n) {i : Nat} (hi : i < n) : ∃ a c, v i = .slice a (xs i).length c ∧ Strs w a (xs i).length (fun j => (xs i).getD j ByteArray.empty) := by
  have hr := h.1 i hi
  rcases hr.2 with ⟨e, hl⟩ | ⟨g, cap, cur, e, hb, hg, _⟩
  · exact ⟨none, 0, by rw [e, hl], .inl hl⟩
  · refine ⟨_, _, e, .inr ⟨g, 0, rfl, (Array.getElem?_eq_some_iff.1 hg).1, fun j hj => ?_⟩⟩
    rw [e] at hr
    have := hr.cellAt j (by omega)
    rw [Nat.zero_add, this]
    simp [hj]

/-- One string more in one row. -/
theorem Fam.append (h : Fam w base v xs n) {i : Nat} (hi : i < n) {v' : Value} {s : ByteArray} {row : Option Nat} (hrow : row = (v i).ownBlock) (hg : w.grownBy w' row)
    (ho : w'.ownsRow base 9 1 v' ((xs i).length + 1) ((xs i).map Value.string ++ [.string s])) (hloc : v'.ownBlock = (v i).ownBlock ∨ ∃ g, v'.ownBlock = some g ∧ w.heap.size ≤ g) :
    Fam w' base (put v i v') (put xs i (xs i ++ [s])) n := by
  subst hrow
  have apart : ∀ j, j < n → j ≠ i → (v j).ownBlock = none ∨ (v j).ownBlock ≠ v'.ownBlock := fun j hj hne => by
    rcases hloc with e | ⟨g, e, hge⟩
    · rw [e]; exact h.2 j i hj hi hne
    · cases e' : (v j).ownBlock with
      | none => exact .inl rfl
      | some q =>
        right; rw [e]; intro e2
        have := ((h.1 j hj).lt q e').2
        cases e2; omega
  refine ⟨fun j hj => ?_, fun j k hj hk hne => ?_⟩
  · by_cases e : j = i
    · subst e; rw [put_same, put_same]; simpa using ho
    · rw [put_other v e, put_other xs e]
      exact (h.1 j hj).kept hg (h.2 j i hj hi e)
  · by_cases e : j = i
    · subst e
      rw [put_same, put_other v (fun e => hne e.symm)]
      rcases apart k hk (fun e => hne e.symm) with e1 | e1
      · cases e2 : v'.ownBlock with
        | none => exact .inl rfl
        | some q => right; rw [e1]; simp
      · exact .inr (fun e2 => e1 e2.symm)
    · rw [put_other v e]
      by_cases e2 : k = i
      · subst e2; rw [put_same]; exact apart j hj e
      · rw [put_other v e2]; exact h.2 j k hj hk hne

/-! ### maps of slices -/
/-- How a slice in the map reads: as itself. -/
def tokE : Value → Option (DataW Value × List MemPlace)
  | .slice a n c => some (.held (.slice a n c), [])
  | _ => none

theorem tokE_inv {x y : Value} {ps : List MemPlace} (h : tokE x = some (.held y, ps)) : x = y := by
  cases x <;> simp [tokE] at h
  exact h.1

theorem law : Keyed Yba.prog 9 := string_keyed Yba.underlying9
theorem zero24 (w : World) : (zeroValue 24).run Yba.prog w = .ok (.slice none 0 0) w := by kernel_rfl

/-- What a name reads as. -/
def kl (k : Nat) : Lit := .string (nm k).data.toList

theorem key_nm (k : Nat) : keyOf Yba.prog 9 (.string (nm k)) = some (kl k) := by
  refine Go.WideMaps.keyOf_string_mk Yba.underlying9 ?_
  unfold nm maxLen; split <;> decide

theorem isKey_kl (k : Nat) : WideAt.IsKeyLit (kl k) := law.key (key_nm k)

theorem kl_ne {i j : Nat} (hi : i < 3) (hj : j < 3) (h : i ≠ j) : kl i ≠ kl j := by
  rcases (by omega : i = 0 ∨ i = 1 ∨ i = 2) with rfl | rfl | rfl <;> rcases (by omega : j = 0 ∨ j = 1 ∨ j = 2) with rfl | rfl | rfl <;> first | omega | (simp [kl, nm])

/-- Block b is a map that holds at name k the slice vv k (nil where there is none), and has the keys p k alone. -/
def Tie (w : World) (b n : Nat) (vv : Nat → Value) (p : Nat → Bool) : Prop :=
  ∃ D : DataW Value, w.ownsMap Yba.prog 9 tokE b n D ∧ (∀ k, k < 3 → D.atKey (kl k) (.held (.slice none 0 0)) = .held (vv k)) ∧ (∀ k, k < 3 → has D (kl k) = p k) ∧ ∀ x, has D x = true → ∃ k, k < 3 ∧ x = kl k

variable {b : Nat} {vv : Nat → Value} {p : Nat → Bool}

theorem Tie.made (w : World) (p : Nat → Bool) (hp : ∀ k, k < 3 → p k = false) : Tie (w.alloc (.map #[] 0)) w.heap.size 0 (fun _ => .slice none 0 0) p :=
  ⟨.map [], World.ownsMap_made w _ _ _, fun _ _ => rfl, fun k hk => (hp k hk).symm ▸ rfl, fun x hx => by cases hx⟩

theorem Tie.kept {row : Option Nat} (h : Tie w b n vv p) (hg : w.grownBy w' row) (hr : some b ≠ row) : Tie w' b n vv p := by
  obtain ⟨D, h1, h2⟩ := h
  exact ⟨D, h1.kept hg hr, h2⟩

theorem Tie.lt (h : Tie w b n vv p) : b < w.heap.size := by obtain ⟨D, h1, _⟩ := h; exact h1.lt
theorem Tie.block (h : Tie w b n vv p) : ∃ es cl, w.heap[b]? = some (.map es cl) := by obtain ⟨D, ⟨es, cl, h1, _⟩, _⟩ := h; exact ⟨es, cl, h1⟩
theorem Tie.mono (h : Tie w b n vv p) {n' : Nat} (hn : n ≤ n') : Tie w b n' vv p := by obtain ⟨D, h1, h2⟩ := h; exact ⟨D, h1.mono hn, h2⟩

theorem Tie.look (h : Tie w b n vv p) {k : Nat} (hk : k < 3) : (Instr.lookup 27 (.map (some b)) (.string (nm k)) false).run Yba.prog w = .ok (vv k) w := by
  obtain ⟨D, h1, h2, _⟩ := h
  obtain ⟨x, ps, hrun, hx⟩ := h1.lookup law Yba.underlying27 (zero24 w) (zd := .held (.slice none 0 0)) (zp := []) rfl (key_nm k)
  rw [h2 k hk] at hx
  rw [hrun, tokE_inv hx]

theorem Tie.store (h : Tie w b n vv p) (hn : n < maxLen) {k : Nat} (hk : k < 3) (a : Option Addr) (m c : Nat) : ∃ w', (Instr.mapUpdate 27 (.map (some b)) (.string (nm k)) (.slice a m c)).run Yba.prog w = .ok () w' ∧
    Tie w' b (n + 1) (put vv k (.slice a m c)) (put p k true) ∧ w.grownBy w' (some b) := by
  obtain ⟨D, h1, h2, h3, h4⟩ := h
  obtain ⟨w', hrun, h1', hg⟩ := h1.update (t := 27) (e := 24) law Yba.underlying27 hn (key_nm k) (val := .slice a m c) (d := .held (.slice a m c)) (ps := []) rfl
  refine ⟨w', hrun, ⟨_, h1', fun j hj => ?_, fun j hj => ?_, fun x hx => ?_⟩, hg⟩
  · by_cases e : j = k
    · subst e; rw [put_same, atKey_put_same h1.isMap (isKey_kl j)]
    · rw [put_other vv e, atKey_put_other (kl_ne hj hk e)]; exact h2 j hj
  · by_cases e : j = k
    · subst e; rw [put_same]; exact has_put_same h1.isMap (isKey_kl j) _
    · rw [put_other p e, has_put_other (kl_ne hj hk e)]; exact h3 j hj
  · by_cases e : x = kl k
    · exact ⟨k, hk, e⟩
    · rw [has_put_other e] at hx; exact h4 x hx

/-- 'm[name]' at the operation. -/
theorem wpList_lookup_tok (w : World) {ops : Array Oper} {rest : List Oper} {o : Oper} {a : Act} {Q : Exit → Act → World → Prop} (hg : o.guard = none) (m x : Operand) (hop : o.op = Op.lookup 27 m x false)
    (b n : Nat) (vv : Nat → Value) (p : Nat → Bool) (k : Nat) (hk : k < 3) (hm : a.eval m = .map (some b)) (hx : a.eval x = .string (nm k)) (hT : Tie w b n vv p) (hK : wpList Yba.prog ops Q rest (a.put o.dst (vv k)) w) :
    wpList Yba.prog ops Q (o :: rest) a w := by
  refine wpList_plain hg fun K' hK' => ?_
  have hrun := hT.look hk
  unfold Oper.wp
  simp [execOp, hop, hm, hx, hrun, Result.andThen]
  exact hK' _ _ hK

/-- 'm[name] = slice' at the operation. -/
theorem wpList_update_tok (w : World) {ops : Array Oper} {rest : List Oper} {o : Oper} {a : Act} {Q : Exit → Act → World → Prop} (hg : o.guard = none) (m x u : Operand) (hop : o.op = Op.mapUpdate 27 m x u)
    (b n : Nat) (vv : Nat → Value) (p : Nat → Bool) (k : Nat) (hk : k < 3) (hm : a.eval m = .map (some b)) (hx : a.eval x = .string (nm k)) (ad : Option Addr) (l c : Nat) (hu : a.eval u = .slice ad l c) (hT : Tie w b n vv p) (hn : n < maxLen)
    (hK : ∀ w', Tie w' b (n + 1) (put vv k (.slice ad l c)) (put p k true) → w.grownBy w' (some b) → wpList Yba.prog ops Q rest (a.put o.dst undef) w') :
    wpList Yba.prog ops Q (o :: rest) a w := by
  refine wpList_plain hg fun K' hK' => ?_
  obtain ⟨w', hrun, r1, r2⟩ := hT.store hn hk ad l c
  unfold Oper.wp
  simp [execOp, hop, hm, hx, hu, hrun, Result.andThen]
  exact hK' _ _ (hK w' r1 r2)
end Go.Proofs.Ybulkanrc
