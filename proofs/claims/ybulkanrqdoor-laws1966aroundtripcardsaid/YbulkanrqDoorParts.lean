/-
  PARTS for the walk of LawS1966ARoundTrip: the message as a list; what is told of it.
-/
import Derived.Test.YbulkanrqDoorTsig
import Derived.Maps.AppendAt
namespace Go.Proofs.YbulkanrqDoor
open Go.RowKit

/-! ### the list -/
def pad (p : Nat) : List Int := (List.range p).map fun (i : Nat) => 160 + (i : Int)
theorem pad_succ (p : Nat) : pad (p + 1) = pad p ++ [160 + (p : Int)] := by simp [pad, List.range_succ]
theorem pad_len (p : Nat) : (pad p).length = p := by simp [pad]

/-- Two octets. -/
def be (x : Int) : List Int := [x / 256, x % 256]

/-- n bytes told by a function. -/
def tab (n : Nat) (Z : Nat → Int) : List Int := (List.range n).map Z
theorem tab_len (n : Nat) (Z : Nat → Int) : (tab n Z).length = n := by simp [tab]
theorem tab_at {n : Nat} {Z : Nat → Int} {i : Nat} (h : i < n) : (tab n Z)[i]? = some (Z i) := by simp [tab, h]

theorem at_right {α : Type} (l r : List α) {n i : Nat} (hl : l.length = n) : (l ++ r)[n + i]? = r[i]? := by
  rw [List.getElem?_append_right (by omega), hl]; congr 1; omega
theorem at_left {α : Type} (l r : List α) {i : Nat} (hl : i < l.length) : (l ++ r)[i]? = l[i]? := List.getElem?_append_left hl

/-- The whole message. -/
def msgL (p : Nat) (hi lo fud : Int) (l4 : Nat) (Z4 : Nat → Int) (idd rcc : Int) (l7 : Nat) (Z7 : Nat → Int) (l8 : Nat) (Z8 : Nat → Int) : List Int :=
  pad p ++ ([hi / 256, hi % 256, lo / 65536 / 256, lo / 65536 % 256, lo % 65536 / 256, lo % 65536 % 256, fud / 256, fud % 256, (l4 : Int) / 256, (l4 : Int) % 256] ++ (tab l4 Z4 ++ ([idd / 256, idd % 256, rcc / 256, rcc % 256, (l7 : Int) / 256, (l7 : Int) % 256] ++ (tab l7 Z7 ++ tab l8 Z8))))

theorem msgL_eq (p : Nat) (hi lo fud : Int) (l4 : Nat) (Z4 : Nat → Int) (idd rcc : Int) (l7 : Nat) (Z7 : Nat → Int) (l8 : Nat) (Z8 : Nat → Int) :
    pad p ++ be hi ++ be (lo / 65536) ++ be (lo % 65536) ++ be fud ++ be (l4 : Int) ++ tab l4 Z4 ++ be idd ++ be rcc ++ be (l7 : Int) ++ tab l7 Z7 ++ tab l8 Z8 = msgL p hi lo fud l4 Z4 idd rcc l7 Z7 l8 Z8 := by
  simp [be, msgL]

section
variable {p : Nat} {hi lo fud : Int} {l4 : Nat} {Z4 : Nat → Int} {idd rcc : Int} {l7 : Nat} {Z7 : Nat → Int} {l8 : Nat} {Z8 : Nat → Int}
theorem msgL_head (j : Nat) (hj : j < 10) : (msgL p hi lo fud l4 Z4 idd rcc l7 Z7 l8 Z8)[p + j]? = [hi / 256, hi % 256, lo / 65536 / 256, lo / 65536 % 256, lo % 65536 / 256, lo % 65536 % 256, fud / 256, fud % 256, (l4 : Int) / 256, (l4 : Int) % 256][j]? := by
  unfold msgL
  rw [at_right _ _ (pad_len p), at_left _ _ (by simpa using hj)]
theorem msgL_mac (j : Nat) (hj : j < l4) : (msgL p hi lo fud l4 Z4 idd rcc l7 Z7 l8 Z8)[p + 10 + j]? = some (Z4 j) := by
  unfold msgL
  rw [Nat.add_assoc, at_right _ _ (pad_len p), at_right (n := 10) _ _ rfl, at_left _ _ (by rw [tab_len]; exact hj), tab_at hj]
theorem msgL_mid (j : Nat) (hj : j < 6) : (msgL p hi lo fud l4 Z4 idd rcc l7 Z7 l8 Z8)[p + 10 + l4 + j]? = [idd / 256, idd % 256, rcc / 256, rcc % 256, (l7 : Int) / 256, (l7 : Int) % 256][j]? := by
  unfold msgL
  rw [show p + 10 + l4 + j = p + (10 + (l4 + j)) by omega, at_right _ _ (pad_len p), at_right (n := 10) _ _ rfl, at_right _ _ (tab_len _ _), at_left _ _ (by simpa using hj)]
theorem msgL_oth (j : Nat) (hj : j < l7) : (msgL p hi lo fud l4 Z4 idd rcc l7 Z7 l8 Z8)[p + 16 + l4 + j]? = some (Z7 j) := by
  unfold msgL
  rw [show p + 16 + l4 + j = p + (10 + (l4 + (6 + j))) by omega, at_right _ _ (pad_len p), at_right (n := 10) _ _ rfl, at_right _ _ (tab_len _ _), at_right (n := 6) _ _ rfl, at_left _ _ (by rw [tab_len]; exact hj), tab_at hj]

theorem msgL_range (hp : p < 8) (bhi : 0 ≤ hi ∧ hi ≤ 65535) (blo : 0 ≤ lo ∧ lo ≤ 4294967295) (bfud : 0 ≤ fud ∧ fud ≤ 65535) (bid : 0 ≤ idd ∧ idd ≤ 65535) (brc : 0 ≤ rcc ∧ rcc ≤ 65535) (m4 : l4 ≤ 1024) (m7 : l7 ≤ 1024)
    (r4 : ∀ i, i < l4 → 0 ≤ Z4 i ∧ Z4 i ≤ 255) (r7 : ∀ i, i < l7 → 0 ≤ Z7 i ∧ Z7 i ≤ 255) (r8 : ∀ i, i < l8 → 0 ≤ Z8 i ∧ Z8 i ≤ 255) : ∀ x ∈ msgL p hi lo fud l4 Z4 idd rcc l7 Z7 l8 Z8, 0 ≤ x ∧ x ≤ 255 := by
  have tb : ∀ (n : Nat) (Z : Nat → Int), (∀ i, i < n → 0 ≤ Z i ∧ Z i ≤ 255) → ∀ x ∈ tab n Z, 0 ≤ x ∧ x ≤ 255 := by
    intro n Z h x hx
    obtain ⟨i, hi, rfl⟩ := List.mem_map.1 hx
    exact h i (List.mem_range.1 hi)
  intro x hx
  unfold msgL at hx
  rcases List.mem_append.1 hx with h | h
  · obtain ⟨i, hi, rfl⟩ := List.mem_map.1 h
    have := List.mem_range.1 hi
    omega
  rcases List.mem_append.1 h with h | h
  · simp only [List.mem_cons, List.not_mem_nil, or_false] at h
    omega
  rcases List.mem_append.1 h with h | h
  · exact tb _ _ r4 x h
  rcases List.mem_append.1 h with h | h
  · simp only [List.mem_cons, List.not_mem_nil, or_false] at h
    omega
  rcases List.mem_append.1 h with h | h
  · exact tb _ _ r7 x h
  · exact tb _ _ r8 x h
end

theorem getD_of {l : List Int} {i : Nat} {x : Int} (h : l[i]? = some x) : l.getD i 0 = x := by rw [List.getD_eq_getElem?_getD, h]; rfl

/-! ### the row -/
def Own (w : World) (B total k : Nat) (bs : List Int) : Prop := w.ownsRow B 5 1 (.slice (some ⟨B, 0, none⟩) k total) k (bs.map (Value.int .u8))

theorem Own.len {w : World} {B total k : Nat} {bs : List Int} (h : Own w B total k bs) : bs.length = k := by have := h.1; simpa using this
theorem Own.cell {w : World} {B total k : Nat} {bs : List Int} (h : Own w B total k bs) {i : Nat} {x : Int} (hi : bs[i]? = some x) : w.cell? ⟨B, i, none⟩ = some (.int .u8 x) := by
  have hk : i < k := by have := (List.getElem?_eq_some_iff.1 hi).1; have := h.len; omega
  rw [World.ownsRow.cellAt h i (by omega), List.getElem?_map, hi]; rfl
theorem Own.cells {w : World} {B total k : Nat} {bs : List Int} (h : Own w B total k bs) (i : Nat) (hi : i < k) : w.cell? ⟨B, i, none⟩ = some (.int .u8 (bs.getD i 0)) := by
  have hl := h.len
  refine h.cell ?_
  rw [List.getD_eq_getElem?_getD, List.getElem?_eq_getElem (by omega)]; rfl
theorem Own.lt {w : World} {B total k : Nat} {bs : List Int} (h : Own w B total k bs) : B < w.heap.size := (World.ownsRow.lt h B rfl).2

theorem put16_own {w0 w : World} {B total k : Nat} {bs : List Int} {x : Int} (hx : 0 ≤ x ∧ x ≤ 65535) (hk : k + 2 ≤ total) (h : Own w B total k bs) (hb : Below B w0 w) :
    Calls Ybad.prog 4 #[.slice (some ⟨B, 0, none⟩) k total, .int .u16 x] w fun e w' => e = .returned (.slice (some ⟨B, 0, none⟩) (k + 2) total) ∧ Own w' B total (k + 2) (bs ++ be x) ∧ Below B w0 w' :=
  (put16_any B k total _ x B w hx hk h).mono fun e w' ⟨he, h1, h2⟩ => ⟨he, by unfold Own; rw [List.map_append]; exact h1, hb.grown h2 (Nat.le_of_lt h.lt) (fun q hq => by cases hq; exact Nat.le_refl _)⟩

/-- What is told of an argument that is a slice of bytes. -/
def Arg (w : World) (a : Option Addr) (n cap : Nat) (Z : Nat → Int) : Prop := (a = none → n = 0 ∧ cap = 0) ∧ Bytes w a n Z

theorem src_cells {w w1 : World} {a : Option Addr} {n cap : Nat} {Z : Nat → Int} (h : Arg w a n cap Z) (hb : Below w.heap.size w w1) : ∀ ad, a = some ad → ∀ (j : Nat) u, ((tab n Z).map (Value.int .u8))[j]? = some u → w1.cell? (ad.add j) = some u := by
  intro ad ha j u hu
  have hj : j < n := by have := (List.getElem?_eq_some_iff.1 hu).1; simpa [tab_len] using this
  rw [List.getElem?_map, tab_at hj] at hu
  cases hu
  rcases h.2.later (Nat.le_refl _) hb with h0 | ⟨b, off, e, _, hc⟩
  · omega
  · rw [e] at ha; cases ha
    rw [Addr.add_lit]; exact (hc j hj).1

theorem Own.below {w0 w w1 : World} {B total k : Nat} {bs : List Int} (h : Own w B total k bs) (hb : Below B w0 w) (hg : w.grownBy w1 (some B)) : Below B w0 w1 := hb.grown hg (Nat.le_of_lt h.lt) (fun q hq => by cases hq; exact Nat.le_refl _)

theorem Bytes.range {w : World} {a : Option Addr} {n : Nat} {Z : Nat → Int} (h : Bytes w a n Z) : ∀ i, i < n → 0 ≤ Z i ∧ Z i ≤ 255 := by
  intro i hi
  rcases h with h | ⟨b, off, _, _, hc⟩
  · omega
  · exact (hc i hi).2
end Go.Proofs.YbulkanrqDoor
