/-
  THE PLAIN FUNCTIONS of the seat b1963a: no Go in sight. What parseStamp and the model compute: six numbers and a bool.
-/
namespace Go.Proofs.Ybulkanqa.Plain

/-- Six numbers. -/
abbrev Six : Type := Int × Int × Int × Int × Int × Int

/-- One digit more, with a wrap handed in. -/
def more (wr : Int → Int) (a c : Int) : Int := wr (wr (a * 10) + (c - 48))

/-- What a letter does to the six numbers. -/
def upd (wr : Int → Int) (l c : Int) : Six → Six
  | (a0, a1, a2, a3, a4, a5) =>
    if l = 89 then (more wr a0 c, a1, a2, a3, a4, a5)
    else if l = 77 then (a0, more wr a1 c, a2, a3, a4, a5)
    else if l = 68 then (a0, a1, more wr a2 c, a3, a4, a5)
    else if l = 104 then (a0, a1, a2, more wr a3 c, a4, a5)
    else if l = 109 then (a0, a1, a2, a3, more wr a4 c, a5)
    else (a0, a1, a2, a3, a4, more wr a5 c)

/-- Is l a letter of the layout? -/
def isL (l : Int) : Prop := l = 89 ∨ l = 77 ∨ l = 68 ∨ l = 104 ∨ l = 109 ∨ l = 115

theorem isL_cases (l : Int) : l = 89 ∨ l = 77 ∨ l = 68 ∨ l = 104 ∨ l = 109 ∨ l = 115 ∨ (l ≠ 89 ∧ l ≠ 77 ∧ l ≠ 68 ∧ l ≠ 104 ∧ l ≠ 109 ∧ l ≠ 115) := by omega

theorem upd0 {wr : Int → Int} {l c a0 a1 a2 a3 a4 a5 : Int} (h : l = 89) : upd wr l c (a0, a1, a2, a3, a4, a5) = (wr (wr (a0 * 10) + (c - 48)), a1, a2, a3, a4, a5) := by subst h; rfl
theorem upd1 {wr : Int → Int} {l c a0 a1 a2 a3 a4 a5 : Int} (h : l = 77) : upd wr l c (a0, a1, a2, a3, a4, a5) = (a0, wr (wr (a1 * 10) + (c - 48)), a2, a3, a4, a5) := by subst h; rfl
theorem upd2 {wr : Int → Int} {l c a0 a1 a2 a3 a4 a5 : Int} (h : l = 68) : upd wr l c (a0, a1, a2, a3, a4, a5) = (a0, a1, wr (wr (a2 * 10) + (c - 48)), a3, a4, a5) := by subst h; rfl
theorem upd3 {wr : Int → Int} {l c a0 a1 a2 a3 a4 a5 : Int} (h : l = 104) : upd wr l c (a0, a1, a2, a3, a4, a5) = (a0, a1, a2, wr (wr (a3 * 10) + (c - 48)), a4, a5) := by subst h; rfl
theorem upd4 {wr : Int → Int} {l c a0 a1 a2 a3 a4 a5 : Int} (h : l = 109) : upd wr l c (a0, a1, a2, a3, a4, a5) = (a0, a1, a2, a3, wr (wr (a4 * 10) + (c - 48)), a5) := by subst h; rfl
theorem upd5 {wr : Int → Int} {l c a0 a1 a2 a3 a4 a5 : Int} (h : l = 115) : upd wr l c (a0, a1, a2, a3, a4, a5) = (a0, a1, a2, a3, a4, wr (wr (a5 * 10) + (c - 48))) := by subst h; rfl

/-- The rest of the reading: n bytes from place k on. -/
def run (wr : Int → Int) (c l : Nat → Int) : Nat → Nat → Six → Six × Bool
  | 0, _, t => (t, true)
  | n + 1, k, t =>
    if l k = 89 ∨ l k = 77 ∨ l k = 68 ∨ l k = 104 ∨ l k = 109 ∨ l k = 115 then
      if 48 ≤ c k ∧ c k ≤ 57 then run wr c l n (k + 1) (upd wr (l k) (c k) t) else (t, false)
    else if c k = l k then run wr c l n (k + 1) t else (t, false)

variable (wr : Int → Int) (c l : Nat → Int)

theorem run_end {len k : Nat} (h : ¬ k < len) (t : Six) : run wr c l (len - k) k t = (t, true) := by
  rw [show len - k = 0 from by omega]; rfl

theorem run_digit {len k : Nat} (h : k < len) (t : Six) (hl : l k = 89 ∨ l k = 77 ∨ l k = 68 ∨ l k = 104 ∨ l k = 109 ∨ l k = 115) (h1 : 48 ≤ c k) (h2 : c k ≤ 57) :
    run wr c l (len - k) k t = run wr c l (len - (k + 1)) (k + 1) (upd wr (l k) (c k) t) := by
  rw [show len - k = (len - (k + 1)) + 1 from by omega, run, if_pos hl, if_pos ⟨h1, h2⟩]

theorem run_nodigit {len k : Nat} (h : k < len) (t : Six) (hl : l k = 89 ∨ l k = 77 ∨ l k = 68 ∨ l k = 104 ∨ l k = 109 ∨ l k = 115) (h1 : ¬ (48 ≤ c k ∧ c k ≤ 57)) :
    run wr c l (len - k) k t = (t, false) := by
  rw [show len - k = (len - (k + 1)) + 1 from by omega, run, if_pos hl, if_neg h1]

theorem run_same {len k : Nat} (h : k < len) (t : Six) (hl : l k ≠ 89 ∧ l k ≠ 77 ∧ l k ≠ 68 ∧ l k ≠ 104 ∧ l k ≠ 109 ∧ l k ≠ 115) (h1 : c k = l k) :
    run wr c l (len - k) k t = run wr c l (len - (k + 1)) (k + 1) t := by
  rw [show len - k = (len - (k + 1)) + 1 from by omega, run, if_neg (by omega), if_pos h1]

theorem run_other {len k : Nat} (h : k < len) (t : Six) (hl : l k ≠ 89 ∧ l k ≠ 77 ∧ l k ≠ 68 ∧ l k ≠ 104 ∧ l k ≠ 109 ∧ l k ≠ 115) (h1 : c k ≠ l k) :
    run wr c l (len - k) k t = (t, false) := by
  rw [show len - k = (len - (k + 1)) + 1 from by omega, run, if_neg (by omega), if_neg h1]

end Go.Proofs.Ybulkanqa.Plain
