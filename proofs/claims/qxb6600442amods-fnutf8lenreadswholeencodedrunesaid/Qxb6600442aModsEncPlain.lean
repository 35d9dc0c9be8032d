/-
  THE BYTES THAT b1EncodeRune LAYS, AS NUMBERS: no Go in sight, but for the model's own word on bits.
-/
import Derived.WalkKit
import Derived.Test.Qxb6600442aModsPlain
set_option linter.unusedVariables false
namespace Go.Proofs.Qxb6600442aMods.Plain
open Go

theorem and63 (x : Int) (h0 : 0 ≤ x) (h1 : x < 4294967296) : bits .and .u32 x 63 = x % 64 := by
  rw [u32_and x 63 h0 h1 (by omega) (by omega)]
  rw [show (63 : Int).toNat = 63 from rfl, nat_mask6]
  omega

theorem or_join (i : Nat) (a : Nat) (y : Int) (ha : a % 2 ^ i = 0) (hb : a < 256) (h0 : 0 ≤ y) (h1 : y.toNat < 2 ^ i) (h2 : a + y < 256) : bits .or .u32 (a : Int) y % 256 = a + y := by
  rw [u32_or a y (by omega) (by omega) h0 (by omega)]
  rw [show (a : Int).toNat = a from rfl, nat_join i a y.toNat ha h1]
  omega

theorem cont_128 (y : Nat) (h : y < 64) : (128 + y) &&& 192 = 128 := by
  have := (by decide : ∀ y : Fin 64, (128 + y.val) &&& 192 = 128) ⟨y, h⟩
  exact this

theorem cont_join (y : Int) (h0 : 0 ≤ y) (h1 : y < 64) : cont (128 + y) = true := by
  unfold cont
  rw [u8_and (128 + y) 192 (by omega) (by omega) (by omega) (by omega)]
  have e : (128 + y).toNat = 128 + y.toNat := by omega
  rw [e, show (192 : Int).toNat = 192 from rfl, cont_128 _ (by omega)]
  rfl

/-- A byte behind the first. -/
theorem cont_of (x : Int) (h0 : 0 ≤ x) (h1 : x < 4294967296) : cont (bits .or .u32 128 (bits .and .u32 x 63) % 256) = true := by
  rw [and63 x h0 h1]
  have this : bits .or .u32 128 (x % 64) % 256 = 128 + x % 64 := or_join 7 128 (x % 64) (by decide) (by omega) (by omega) (by omega) (by omega)
  rw [this]
  exact cont_join _ (by omega) (by omega)

theorem lead_1 (x : Int) (h0 : x < 192) : lead x = 1 := by unfold lead; (repeat' split) <;> omega
theorem lead_2 (y : Int) (h0 : 0 ≤ y) (h1 : y < 32) : lead (bits .or .u32 192 y % 256) = 2 := by
  have this : bits .or .u32 192 y % 256 = 192 + y := or_join 6 192 y (by decide) (by omega) (by omega) (by omega) (by omega)
  rw [this]; unfold lead; (repeat' split) <;> omega
theorem lead_3 (y : Int) (h0 : 0 ≤ y) (h1 : y < 16) : lead (bits .or .u32 224 y % 256) = 3 := by
  have this : bits .or .u32 224 y % 256 = 224 + y := or_join 5 224 y (by decide) (by omega) (by omega) (by omega) (by omega)
  rw [this]; unfold lead; (repeat' split) <;> omega
theorem lead_4 (y : Int) (h0 : 0 ≤ y) (h1 : y < 8) : lead (bits .or .u32 240 y % 256) = 4 := by
  have this : bits .or .u32 240 y % 256 = 240 + y := or_join 4 240 y (by decide) (by omega) (by omega) (by omega) (by omega)
  rw [this]; unfold lead; (repeat' split) <;> omega

/-- Four numbers as a function. -/
def four (a b c d : Int) : Nat → Int | 0 => a | 1 => b | 2 => c | _ => d

/-- What is known of an encoding of k bytes. -/
def Enc (e : Nat → Int) (k : Nat) : Prop := 1 ≤ k ∧ k ≤ 4 ∧ lead (e 0) = k ∧ ∀ j, j < k - 1 → cont (e (j + 1)) = true

theorem enc1 (a b c d : Int) (ha : a < 192) : Enc (four a b c d) 1 := ⟨by omega, by omega, lead_1 a ha, fun j hj => absurd hj (by omega)⟩
theorem enc2 (a b c d : Int) (ha : lead a = 2) (hb : cont b = true) : Enc (four a b c d) 2 := ⟨by omega, by omega, ha, fun j hj => by
  obtain rfl : j = 0 := by omega
  exact hb⟩
theorem enc3 (a b c d : Int) (ha : lead a = 3) (hb : cont b = true) (hc : cont c = true) : Enc (four a b c d) 3 := ⟨by omega, by omega, ha, fun j hj => by
  rcases (show j = 0 ∨ j = 1 by omega) with rfl | rfl
  · exact hb
  · exact hc⟩
theorem enc4 (a b c d : Int) (ha : lead a = 4) (hb : cont b = true) (hc : cont c = true) (hd : cont d = true) : Enc (four a b c d) 4 := ⟨by omega, by omega, ha, fun j hj => by
  rcases (show j = 0 ∨ j = 1 ∨ j = 2 by omega) with rfl | rfl | rfl
  · exact hb
  · exact hc
  · exact hd⟩

/-- First k of e, then f. -/
def join (k : Nat) (e f : Nat → Int) : Nat → Int := fun j => if j < k then e j else f (j - k)

theorem ulen_join (e f : Nat → Int) (k n : Nat) (h : Enc e k) : ulen (join k e f) (k + n) = k := by
  obtain ⟨h1, h2, h3, h4⟩ := h
  refine ulen_all _ _ k ?_ (by omega) fun j hj => ?_
  · unfold join; rw [if_pos (by omega)]; exact h3
  · unfold join; rw [if_pos (by omega)]; exact h4 j hj

end Go.Proofs.Qxb6600442aMods.Plain
