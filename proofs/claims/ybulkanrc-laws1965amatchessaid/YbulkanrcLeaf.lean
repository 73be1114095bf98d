/-
  THE LEAVES: 'zzs1965aname', 'zzs1965aval', 'zzs1965atoobig'; slices.Index, slices.Contains at strings.
-/
import Derived.Test.YbulkanrcRows
import Derived.WalkKit
import Derived.WalkSpells
namespace Go.Proofs.Ybulkanrc
open Go.RowKit

theorem hid {p : Prop} (h : p) : Hid p := h

/-- The three names. -/
def nm : Nat → ByteArray
  | 0 => ⟨#[111, 115]⟩
  | 1 => ⟨#[97]⟩
  | _ => ⟨#[98]⟩

/-- The four values. -/
def vl : Nat → ByteArray
  | 0 => ⟨#[120]⟩
  | 1 => ⟨#[121]⟩
  | 2 => ⟨#[]⟩
  | _ => ⟨#[49, 46, 48]⟩

set_option maxHeartbeats 400000 in
theorem name_any (k : Nat) (w : World) (hk : k < 3) :
    Calls Yba.prog 7 #[.int .i64 (k : Int)] w fun e w' => e = .returned (.string (nm k)) ∧ w' = w := by
  rcases (by omega : k = 0 ∨ k = 1 ∨ k = 2) with h | h | h <;> subst h
  all_goals
    go_enter Yba.func7, Yba.ntmps7
    go_wp2
    go_ret
    exact ⟨rfl, rfl⟩

set_option maxHeartbeats 400000 in
theorem val_any (k : Nat) (w : World) (hk : k < 4) :
    Calls Yba.prog 6 #[.int .i64 (k : Int)] w fun e w' => e = .returned (.string (vl k)) ∧ w' = w := by
  rcases (by omega : k = 0 ∨ k = 1 ∨ k = 2 ∨ k = 3) with h | h | h | h <;> subst h
  all_goals
    go_enter Yba.func6, Yba.ntmps6
    go_wp2
    go_ret
    exact ⟨rfl, rfl⟩

/-- Go's '==' of two strings, as the walk spells it. -/
def eqs (a b : ByteArray) : Bool := a.toList == b.toList

theorem eqs_t {a b : ByteArray} (h : (a.toList == b.toList) = true) : eqs a b = true := h
theorem eqs_f {a b : ByteArray} (h : (a.toList == b.toList) = false) : eqs a b = false := h

/-- A slice of n strings that lies in w. -/
def Strs (w : World) (a : Option Addr) (n : Nat) (S : Nat → ByteArray) : Prop :=
  n = 0 ∨ ∃ b off, a = some ⟨b, off, none⟩ ∧ b < w.heap.size ∧ ∀ i, i < n → w.cell? ⟨b, off + i, none⟩ = some (.string (S i))

theorem Strs.later {w w1 : World} {a : Option Addr} {n : Nat} {S : Nat → ByteArray} (h : Strs w a n S) (hb : Below w.heap.size w w1) : Strs w1 a n S := by
  rcases h with h | ⟨b, off, rfl, h1, h2⟩
  · exact .inl h
  · exact .inr ⟨b, off, rfl, Nat.lt_of_lt_of_le h1 hb.size, fun i hi => (hb.cell (p := ⟨b, off + i, none⟩) h1).trans (h2 i hi)⟩

set_option maxHeartbeats 400000 in
theorem index_any (a : Option Addr) (n cap : Nat) (S : Nat → ByteArray) (s : ByteArray) (w : World) (hm : n ≤ 1000000) (hS : Strs w a n S) :
    Calls Yba.prog 13 #[.slice a n cap, .string s] w fun e w' => w' = w ∧ ∃ r : Int, e = .returned (.int .i64 r) ∧ (0 ≤ r ↔ ∃ i, i < n ∧ eqs s (S i) = true) := by
  have HS := hid hS
  clear hS
  go_enter Yba.func13, Yba.ntmps13
  go_wp2
  go_loop [8] (fun i => ∃ k : Nat, k ≤ n ∧ i = .int .i64 k ∧ ∀ j, j < k → eqs s (S j) = false) (fun i => n - (intOf i).toNat)
  case atStart => exact ⟨0, Nat.zero_le _, rfl, fun j hj => absurd hj (Nat.not_lt_zero j)⟩
  case round =>
    obtain ⟨k, hk, rfl, hno⟩ := hrel
    have HN := hid hno
    clear hno
    by_cases hlt : k < n
    · obtain ⟨b, off, e0, hb, hck⟩ : ∃ b off, a = some ⟨b, off, none⟩ ∧ b < w.heap.size ∧ w.cell? ⟨b, off + k, none⟩ = some (.string (S k)) := by
        rcases HS.out with h0 | ⟨b, off, e0, hb, h1⟩
        · omega
        · exact ⟨b, off, e0, hb, h1 k hlt⟩
      rw [e0]
      go_wp2
      · have hq : (s.toList == (S k).toList) = true := by assumption
        go_ret
        exact ⟨rfl, _, rfl, ⟨fun _ => ⟨k, hlt, eqs_t hq⟩, fun _ => by omega⟩⟩
      · have hq : (s.toList == (S k).toList) = false := by assumption
        go_round
        case rel => exact ⟨k + 1, by omega, by go_num, fun j hj => by
          by_cases e : j = k
          · subst e; exact eqs_f hq
          · exact HN.out j (by omega)⟩
        case measure => simp [intOf]; omega
    · go_wp2
      go_ret
      exact ⟨rfl, _, rfl, ⟨fun h => absurd h (by omega), fun ⟨i, hi, h⟩ => by rw [HN.out i (by omega)] at h; cases h⟩⟩

set_option maxHeartbeats 400000 in
theorem contains_any (a : Option Addr) (n cap : Nat) (S : Nat → ByteArray) (s : ByteArray) (w : World) (hm : n ≤ 1000000) (hS : Strs w a n S) (c : Bool) (hc : c = true ↔ ∃ i, i < n ∧ eqs s (S i) = true) :
    Calls Yba.prog 11 #[.slice a n cap, .string s] w fun e w' => e = .returned (.bool c) ∧ w' = w := by
  have HS := hid hS
  have HC := hid hc
  clear hS hc
  go_enter Yba.func11, Yba.ntmps11
  go_wp2_with fail
  refine (index_any a n cap S s w hm HS.out).mono ?_
  rintro e w' ⟨rfl, r, rfl, hr⟩
  have hd : decide (0 ≤ r) = c := by
    cases c
    · exact decide_eq_false (fun h => by have := HC.out.2 (hr.1 h); cases this)
    · exact decide_eq_true (hr.2 (HC.out.1 rfl))
  clear hr
  go_wp2
  go_ret
  exact ⟨rfl, rfl⟩

set_option maxHeartbeats 400000 in
/-- The closure of hasTags: the variable that it captured holds the wanted strings. -/
theorem clos_any (pb : Nat) (a : Option Addr) (n cap : Nat) (S : Nat → ByteArray) (s : ByteArray) (w : World) (hm : n ≤ 1000000) (hS : Strs w a n S) (hp : w.cell? ⟨pb, 0, none⟩ = some (.slice a n cap)) (c : Bool) (hc : c = true ↔ ∃ i, i < n ∧ eqs s (S i) = true) :
    Calls Yba.prog 10 #[.string s, .pointer (some ⟨pb, 0, none⟩)] w fun e w' => e = .returned (.bool c) ∧ w' = w := by
  have HS := hid hS
  have HC := hid hc
  clear hS hc
  go_enter Yba.func10, Yba.ntmps10
  go_wp2_with fail
  refine (contains_any a n cap S s w hm HS.out c HC.out).mono ?_
  rintro e w' ⟨rfl, rfl⟩
  go_wp2
  go_ret
  exact ⟨rfl, rfl⟩

set_option maxHeartbeats 400000 in
theorem indexFunc_any (a : Option Addr) (n cap : Nat) (S : Nat → ByteArray) (pb : Nat) (a2 : Option Addr) (n2 cap2 : Nat) (S2 : Nat → ByteArray) (w : World) (hm : n ≤ 1000000) (hm2 : n2 ≤ 1000000) (hS : Strs w a n S) (hS2 : Strs w a2 n2 S2)
    (hp : w.cell? ⟨pb, 0, none⟩ = some (.slice a2 n2 cap2)) :
    Calls Yba.prog 12 #[.slice a n cap, .func (.func 10) #[] #[.pointer (some ⟨pb, 0, none⟩)]] w fun e w' => w' = w ∧ ∃ r : Int, e = .returned (.int .i64 r) ∧ (0 ≤ r ↔ ∃ i, i < n ∧ ∃ j, j < n2 ∧ eqs (S i) (S2 j) = true) := by
  have HS := hid hS
  have HS2 := hid hS2
  clear hS hS2
  go_enter Yba.func12, Yba.ntmps12
  go_wp2
  go_loop [8] (fun i => ∃ k : Nat, k ≤ n ∧ i = .int .i64 k ∧ ∀ i, i < k → ¬ ∃ j, j < n2 ∧ eqs (S i) (S2 j) = true) (fun i => n - (intOf i).toNat)
  case atStart => exact ⟨0, Nat.zero_le _, rfl, fun j hj => absurd hj (Nat.not_lt_zero j)⟩
  case round =>
    obtain ⟨k, hk, rfl, hno⟩ := hrel
    have HN := hid hno
    clear hno
    by_cases hlt : k < n
    · obtain ⟨b, off, e0, hb, hck⟩ : ∃ b off, a = some ⟨b, off, none⟩ ∧ b < w.heap.size ∧ w.cell? ⟨b, off + k, none⟩ = some (.string (S k)) := by
        rcases HS.out with h0 | ⟨b, off, e0, hb, h1⟩
        · omega
        · exact ⟨b, off, e0, hb, h1 k hlt⟩
      rw [e0]
      by_cases hq : ∃ j, j < n2 ∧ eqs (S k) (S2 j) = true
      · have HQ := hid hq
        clear hq
        go_wp2_with (go_at_call 10; refine (clos_any pb a2 n2 cap2 S2 (S k) _ hm2 HS2.out hp true ⟨fun _ => HQ.out, fun _ => rfl⟩).mono ?_; rintro e w' ⟨rfl, rfl⟩)
        go_ret
        exact ⟨rfl, _, rfl, ⟨fun _ => ⟨k, hlt, HQ.out⟩, fun _ => by omega⟩⟩
      · have HQ := hid hq
        clear hq
        go_wp2_with (go_at_call 10; refine (clos_any pb a2 n2 cap2 S2 (S k) _ hm2 HS2.out hp false ⟨fun h => absurd h Bool.noConfusion, fun h => absurd h HQ.out⟩).mono ?_; rintro e w' ⟨rfl, rfl⟩)
        go_round
        case rel => exact ⟨k + 1, by omega, by go_num, fun j hj => by
          by_cases e : j = k
          · subst e; exact HQ.out
          · exact HN.out j (by omega)⟩
        case measure => simp [intOf]; omega
    · go_wp2
      go_ret
      exact ⟨rfl, _, rfl, ⟨fun h => absurd h (by omega), fun ⟨i, hi, h⟩ => absurd h (HN.out i (by omega))⟩⟩

set_option maxHeartbeats 400000 in
theorem containsFunc_any (a : Option Addr) (n cap : Nat) (S : Nat → ByteArray) (pb : Nat) (a2 : Option Addr) (n2 cap2 : Nat) (S2 : Nat → ByteArray) (w : World) (hm : n ≤ 1000000) (hm2 : n2 ≤ 1000000) (hS : Strs w a n S) (hS2 : Strs w a2 n2 S2)
    (hp : w.cell? ⟨pb, 0, none⟩ = some (.slice a2 n2 cap2)) (c : Bool) (hc : c = true ↔ ∃ i, i < n ∧ ∃ j, j < n2 ∧ eqs (S i) (S2 j) = true) :
    Calls Yba.prog 9 #[.slice a n cap, .func (.func 10) #[] #[.pointer (some ⟨pb, 0, none⟩)]] w fun e w' => e = .returned (.bool c) ∧ w' = w := by
  have HS := hid hS
  have HS2 := hid hS2
  have HC := hid hc
  clear hS hS2 hc
  go_enter Yba.func9, Yba.ntmps9
  go_wp2_with fail
  refine (indexFunc_any a n cap S pb a2 n2 cap2 S2 w hm hm2 HS.out HS2.out hp).mono ?_
  rintro e w' ⟨rfl, r, rfl, hr⟩
  have hd : decide (0 ≤ r) = c := by
    cases c
    · exact decide_eq_false (fun h => by have := HC.out.2 (hr.1 h); cases this)
    · exact decide_eq_true (hr.2 (HC.out.1 rfl))
  clear hr
  go_wp2
  go_ret
  exact ⟨rfl, rfl⟩
end Go.Proofs.Ybulkanrc
