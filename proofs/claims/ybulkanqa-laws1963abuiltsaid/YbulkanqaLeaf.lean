/-
  THE LEAVES: 'part', 'IsDigit', 'zzs1963aslot'.
-/
import Derived.Test.YbulkanqaRows
import Derived.WalkKit
import Derived.WalkSpells

namespace Go.Proofs.Ybulkanqa
open Go.RowKit

set_option maxHeartbeats 400000 in
theorem digit_yes (c : Int) (w : World) (h1 : 48 ≤ c) (h2 : c ≤ 57) :
    Calls Yba.prog 10 #[.int .u8 c] w fun e w' => e = .returned (.bool true) ∧ w' = w := by
  go_enter Yba.func10, Yba.ntmps10
  go_wp2
  go_ret
  exact ⟨rfl, rfl⟩

set_option maxHeartbeats 400000 in
theorem digit_no (c : Int) (w : World) (h : c < 48 ∨ 57 < c) :
    Calls Yba.prog 10 #[.int .u8 c] w fun e w' => e = .returned (.bool false) ∧ w' = w := by
  rcases h with h | h
  · go_enter Yba.func10, Yba.ntmps10
    go_wp2
    go_ret
    exact ⟨rfl, rfl⟩
  · have h' : 48 ≤ c := by omega
    have hd : decide (c ≤ 57) = false := decide_eq_false (by omega)
    go_enter Yba.func10, Yba.ntmps10
    go_wp2
    go_ret
    exact ⟨rfl, rfl⟩

/-- The place of a letter; 6: none. -/
def place (l : Int) : Int := if l = 89 then 0 else if l = 77 then 1 else if l = 68 then 2 else if l = 104 then 3 else if l = 109 then 4 else if l = 115 then 5 else -1

set_option maxHeartbeats 1000000 in
theorem slot_any (l : Int) (w : World) :
    Calls Yba.prog 5 #[.int .u8 l] w fun e w' => e = .returned (.int .i64 (place l)) ∧ w' = w := by
  rcases (by omega : l = 89 ∨ l = 77 ∨ l = 68 ∨ l = 104 ∨ l = 109 ∨ l = 115 ∨ (l ≠ 89 ∧ l ≠ 77 ∧ l ≠ 68 ∧ l ≠ 104 ∧ l ≠ 109 ∧ l ≠ 115)) with h | h | h | h | h | h | h
  iterate 6
    · subst h
      go_enter Yba.func5, Yba.ntmps5
      go_wp2
      refine wp_loop_rounds 7 ?_
      repeat any_goals (rw [rounds_succ]; go_wp2)
      go_ret
      exact ⟨rfl, rfl⟩
  · have hp : place l = -1 := by unfold place; simp [h]
    rw [hp]; clear hp
    obtain ⟨h0, h1, h2, h3, h4, h5⟩ := h
    have e0 : (((({ data := #[89, 77, 68, 104, 109, 115] } : ByteArray)[0]'(by decide)).toNat : Int) == l) = false := by simp; show ¬ (89 : Int) = l; omega
    have e1 : (((({ data := #[89, 77, 68, 104, 109, 115] } : ByteArray)[1]'(by decide)).toNat : Int) == l) = false := by simp; show ¬ (77 : Int) = l; omega
    have e2 : (((({ data := #[89, 77, 68, 104, 109, 115] } : ByteArray)[2]'(by decide)).toNat : Int) == l) = false := by simp; show ¬ (68 : Int) = l; omega
    have e3 : (((({ data := #[89, 77, 68, 104, 109, 115] } : ByteArray)[3]'(by decide)).toNat : Int) == l) = false := by simp; show ¬ (104 : Int) = l; omega
    have e4 : (((({ data := #[89, 77, 68, 104, 109, 115] } : ByteArray)[4]'(by decide)).toNat : Int) == l) = false := by simp; show ¬ (109 : Int) = l; omega
    have e5 : (((({ data := #[89, 77, 68, 104, 109, 115] } : ByteArray)[5]'(by decide)).toNat : Int) == l) = false := by simp; show ¬ (115 : Int) = l; omega
    go_enter Yba.func5, Yba.ntmps5
    go_wp2
    refine wp_loop_rounds 7 ?_
    repeat any_goals (rw [rounds_succ]; go_wp2)
    go_ret
    exact ⟨rfl, rfl⟩
end Go.Proofs.Ybulkanqa
