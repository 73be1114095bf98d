/-
  tsigData, as the law asks it: cut short, or whole.
-/
import Derived.Test.YbulkanrqDoorParts
import Derived.LaidEql
namespace Go.Proofs.YbulkanrqDoor
open Go.RowKit

/-- What the octets say, by their places. -/
structure Eqs (c : Nat → Int) (p : Nat) (hi lo fud : Int) (mac : Nat) (idd rcc : Int) (oth : Nat) : Prop where
  h0 : c p * 256 + c (p + 1) = hi
  h2 : c (p + 2) * 16777216 + c (p + 3) * 65536 + c (p + 4) * 256 + c (p + 5) = lo
  h6 : c (p + 6) * 256 + c (p + 7) = fud
  h8 : c (p + 8) * 256 + c (p + 9) = (mac : Int)
  k0 : c (p + 10 + mac) * 256 + c (p + 10 + mac + 1) = idd
  k2 : c (p + 10 + mac + 2) * 256 + c (p + 10 + mac + 3) = rcc
  k4 : c (p + 10 + mac + 4) * 256 + c (p + 10 + mac + 5) = (oth : Int)

theorem msgL_eqs (p : Nat) (hi lo fud : Int) (l4 : Nat) (Z4 : Nat → Int) (idd rcc : Int) (l7 : Nat) (Z7 : Nat → Int) (l8 : Nat) (Z8 : Nat → Int) :
    Eqs (fun i => (msgL p hi lo fud l4 Z4 idd rcc l7 Z7 l8 Z8).getD i 0) p hi lo fud l4 idd rcc l7 := by
  have H : ∀ j (hj : j < 10) x, [hi / 256, hi % 256, lo / 65536 / 256, lo / 65536 % 256, lo % 65536 / 256, lo % 65536 % 256, fud / 256, fud % 256, (l4 : Int) / 256, (l4 : Int) % 256][j]? = some x → (msgL p hi lo fud l4 Z4 idd rcc l7 Z7 l8 Z8).getD (p + j) 0 = x := fun j hj x hx => getD_of ((msgL_head j hj).trans hx)
  have M : ∀ j (hj : j < 6) x, [idd / 256, idd % 256, rcc / 256, rcc % 256, (l7 : Int) / 256, (l7 : Int) % 256][j]? = some x → (msgL p hi lo fud l4 Z4 idd rcc l7 Z7 l8 Z8).getD (p + 10 + l4 + j) 0 = x := fun j hj x hx => getD_of ((msgL_mid j hj).trans hx)
  have e0 := H 0 (by omega) _ rfl
  have e1 := H 1 (by omega) _ rfl
  have e2 := H 2 (by omega) _ rfl
  have e3 := H 3 (by omega) _ rfl
  have e4 := H 4 (by omega) _ rfl
  have e5 := H 5 (by omega) _ rfl
  have e6 := H 6 (by omega) _ rfl
  have e7 := H 7 (by omega) _ rfl
  have e8 := H 8 (by omega) _ rfl
  have e9 := H 9 (by omega) _ rfl
  have f0 := M 0 (by omega) _ rfl
  have f1 := M 1 (by omega) _ rfl
  have f2 := M 2 (by omega) _ rfl
  have f3 := M 3 (by omega) _ rfl
  have f4 := M 4 (by omega) _ rfl
  have f5 := M 5 (by omega) _ rfl
  rw [Nat.add_zero] at e0 f0
  exact { h0 := by simp only [e0, e1]; omega, h2 := by simp only [e2, e3, e4, e5]; omega, h6 := by simp only [e6, e7]; omega, h8 := by simp only [e8, e9]; omega,
          k0 := by simp only [f0, f1]; omega, k2 := by simp only [f2, f3]; omega, k4 := by simp only [f4, f5]; omega }

theorem tsig_short (X : World) (g n cap p : Nat) (c : Nat → Int) (u : Value) (hn : n ≤ cap) (hcap : cap ≤ 100000) (hg : g < X.heap.size)
    (hc : ∀ i, i < n → X.cell? ⟨g, i, none⟩ = some (.int .u8 (c i))) (hb : ∀ i, i < n → 0 ≤ c i ∧ c i ≤ 255)
    (hi lo fud : Int) (mac : Nat) (idd rcc : Int) (oth : Nat) (E : Eqs c p hi lo fud mac idd rcc oth)
    (Te : TypeId) (xe : Value) (h1g : 1 < X.heap.size) (hG : X.cell? ⟨1, 0, none⟩ = some (.iface Te xe)) (hlo : p ≤ n) (hs : n < p + 16 + mac + oth) :
    Calls Ybad.prog 6 #[.pointer (some ⟨X.heap.size, 0, none⟩), .pointer (some ⟨X.heap.size + 1, 0, none⟩)]
      (two X #[.slice (some ⟨g, 0, none⟩) n cap, .int .i64 p, .nilIface, u] #[.int .u64 0, .int .u16 0, .slice none 0 0, .int .u16 0, .int .u16 0, .slice none 0 0]) fun e w' => e = .returned (.tuple #[]) ∧
      w'.cell? ⟨X.heap.size, 1, none⟩ = some (.int .i64 p) ∧ w'.cell? ⟨X.heap.size, 2, none⟩ = some (.iface Te xe) ∧ Below X.heap.size X w' := by
  by_cases h1 : n < p + 10
  · exact tsig_f1 X g n cap p c u hn hcap hg hc hb Te xe h1g hG hlo h1
  · by_cases h2 : n < p + 16 + mac
    · exact tsig_f2 X g n cap p c u hn hcap hg hc hb Te xe h1g hG hi lo fud mac E.h0 E.h2 E.h6 E.h8 (by omega) h2
    · exact tsig_f3 X g n cap p c u hn hcap hg hc hb Te xe h1g hG hi lo fud mac E.h0 E.h2 E.h6 E.h8 idd rcc oth E.k0 E.k2 E.k4 (by omega) hs

theorem tsig_full (X : World) (g n cap p : Nat) (c : Nat → Int) (u : Value) (hn : n ≤ cap) (hcap : cap ≤ 100000) (hg : g < X.heap.size)
    (hc : ∀ i, i < n → X.cell? ⟨g, i, none⟩ = some (.int .u8 (c i))) (hb : ∀ i, i < n → 0 ≤ c i ∧ c i ≤ 255)
    (hi lo fud : Int) (mac : Nat) (idd rcc : Int) (oth : Nat) (E : Eqs c p hi lo fud mac idd rcc oth)
    (hs : p + 16 + mac + oth ≤ n) :
    Calls Ybad.prog 6 #[.pointer (some ⟨X.heap.size, 0, none⟩), .pointer (some ⟨X.heap.size + 1, 0, none⟩)]
      (two X #[.slice (some ⟨g, 0, none⟩) n cap, .int .i64 p, .nilIface, u] #[.int .u64 0, .int .u16 0, .slice none 0 0, .int .u16 0, .int .u16 0, .slice none 0 0]) fun e w' => e = .returned (.tuple #[]) ∧
      w'.cell? ⟨X.heap.size, 1, none⟩ = some (.int .i64 ((p + 16 + mac + oth : Nat) : Int)) ∧ w'.cell? ⟨X.heap.size, 2, none⟩ = some .nilIface ∧ Below X.heap.size X w' ∧
      w'.cell? ⟨X.heap.size + 1, 0, none⟩ = some (.int .u64 (bits .or .u64 (hi * 4294967296) lo)) ∧ w'.cell? ⟨X.heap.size + 1, 1, none⟩ = some (.int .u16 fud) ∧ (∃ c2, w'.cell? ⟨X.heap.size + 1, 2, none⟩ = some (.slice (some ⟨g, p + 10, none⟩) mac c2)) ∧
      w'.cell? ⟨X.heap.size + 1, 3, none⟩ = some (.int .u16 idd) ∧ w'.cell? ⟨X.heap.size + 1, 4, none⟩ = some (.int .u16 rcc) ∧ ∃ a5 c5, w'.cell? ⟨X.heap.size + 1, 5, none⟩ = some (.slice a5 oth c5) ∧ (oth = 0 ∨ a5 = some ⟨g, p + 16 + mac, none⟩) := by
  by_cases hE : cap = p + 10 + mac + 6
  · exact tsig_okE X g n cap p c u hn hcap hg hc hb hi lo fud mac E.h0 E.h2 E.h6 E.h8 idd rcc oth E.k0 E.k2 E.k4 hs hE.symm
  · exact tsig_ok X g n cap p c u hn hcap hg hc hb hi lo fud mac E.h0 E.h2 E.h6 E.h8 idd rcc oth E.k0 E.k2 E.k4 hs hE

theorem tsig_pre_at (X : World) (d d1 : Nat) (hd : d = X.heap.size) (hd1 : d1 = X.heap.size + 1) (a : Option Addr) (n c : Nat) (p : Int) (T : TypeId) (x : Value) (u : Value) (t : Array Value) :
    Calls Ybad.prog 6 #[.pointer (some ⟨d, 0, none⟩), .pointer (some ⟨d1, 0, none⟩)] (two X #[.slice a n c, .int .i64 p, .iface T x, u] t) fun e w' => e = .returned (.tuple #[]) ∧
      w'.cell? ⟨d, 1, none⟩ = some (.int .i64 p) ∧ w'.cell? ⟨d, 2, none⟩ = some (.iface T x) ∧ Below X.heap.size X w' := by
  subst hd; subst hd1; exact tsig_pre X a n c p T x u t

theorem Ybad.comp41 : (Ybad.prog.info? 41).map (fun i => i.comparable) = some true := by kernel_rfl
theorem Ybad.has43 : (Ybad.prog.info? 43).isSome = true := by kernel_rfl
/-- 'd.err == pre', both one pointer. -/
theorem eql_same (w : World) (a : Addr) : (binOp .eql 28 (.iface 41 (.pointer (some a))) (.iface 41 (.pointer (some a)))).run Ybad.prog w = .ok (.bool true) w := by
  obtain ⟨i, hi, hc⟩ := Option.map_eq_some_iff.1 Ybad.comp41
  obtain ⟨j, hj⟩ := Option.isSome_iff_exists.1 Ybad.has43
  exact run_eql_iface_ptr_same w a Ybad.underlying28 Ybad.underlying41 hi hc hj

/-- The MAC, where it lies in the message. -/
theorem mac_bytes {X W : World} {B n p : Nat} {hi lo fud : Int} {l4 : Nat} {Z4 : Nat → Int} {idd rcc : Int} {l7 : Nat} {Z7 : Nat → Int} {l8 : Nat} {Z8 : Nat → Int} (hB : B < X.heap.size)
    (hc : ∀ i, i < n → X.cell? ⟨B, i, none⟩ = some (.int .u8 ((msgL p hi lo fud l4 Z4 idd rcc l7 Z7 l8 Z8).getD i 0))) (hr : ∀ i, i < l4 → 0 ≤ Z4 i ∧ Z4 i ≤ 255) (hs : p + 10 + l4 ≤ n) (hb : Below X.heap.size X W) :
    Bytes W (some ⟨B, p + 10, none⟩) l4 Z4 :=
  .inr ⟨B, p + 10, rfl, Nat.lt_of_lt_of_le hB hb.size, fun i h => ⟨by
    rw [cell_of hb hB (hc (p + 10 + i) (by omega)), getD_of (msgL_mac i h)], hr i h⟩⟩

/-- The other data, where it lies. -/
theorem oth_bytes {X W : World} {B n p : Nat} {hi lo fud : Int} {l4 : Nat} {Z4 : Nat → Int} {idd rcc : Int} {l7 : Nat} {Z7 : Nat → Int} {l8 : Nat} {Z8 : Nat → Int} {a5 : Option Addr} (h5 : l7 = 0 ∨ a5 = some ⟨B, p + 16 + l4, none⟩) (hB : B < X.heap.size)
    (hc : ∀ i, i < n → X.cell? ⟨B, i, none⟩ = some (.int .u8 ((msgL p hi lo fud l4 Z4 idd rcc l7 Z7 l8 Z8).getD i 0))) (hr : ∀ i, i < l7 → 0 ≤ Z7 i ∧ Z7 i ≤ 255) (hs : p + 16 + l4 + l7 ≤ n) (hb : Below X.heap.size X W) :
    Bytes W a5 l7 Z7 := by
  rcases h5 with h5 | h5
  · exact .inl h5
  · exact .inr ⟨B, p + 16 + l4, h5, Nat.lt_of_lt_of_le hB hb.size, fun i h => ⟨by
      rw [cell_of hb hB (hc (p + 16 + l4 + i) (by omega)), getD_of (msgL_oth i h)], hr i h⟩⟩
end Go.Proofs.YbulkanrqDoor
