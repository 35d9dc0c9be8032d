/-
  THE PLAIN LAWS OF SEAT b6600442aM: no Go in sight, but for the model's own word on bits of a byte.
-/
import Derived.WalkKit
set_option linter.unusedVariables false
namespace Go.Proofs.Qxb6600442aMods.Plain
open Go

/-- Is c a byte that goes on (10xxxxxx)? -/
def cont (c : Int) : Bool := bits .and .u8 c 192 == 128

/-- How many bytes the first byte promises. -/
def lead (c : Int) : Nat := if 240 ≤ c then 4 else if 224 ≤ c then 3 else if 192 ≤ c then 2 else 1

/-- The first k bytes behind the first one all go on. -/
def goesOn (f : Nat → Int) (k : Nat) : Bool := (List.range k).all fun j => cont (f (j + 1))

/-- What utf8Len answers of n bytes f 0, f 1, .. -/
def ulen (f : Nat → Int) (n : Nat) : Nat := if n < lead (f 0) then 1 else if goesOn f (lead (f 0) - 1) = true then lead (f 0) else 1

theorem lead_bd (c : Int) : 1 ≤ lead c ∧ lead c ≤ 4 := by
  unfold lead; split <;> (try split) <;> (try split) <;> omega

theorem goesOn_iff (f : Nat → Int) (k : Nat) : goesOn f k = true ↔ ∀ j, j < k → cont (f (j + 1)) = true := by
  simp [goesOn, List.all_eq_true]

theorem ulen_bd (f : Nat → Int) (n : Nat) (hn : 1 ≤ n) : 1 ≤ ulen f n ∧ ulen f n ≤ 4 ∧ ulen f n ≤ n := by
  have h := lead_bd (f 0)
  unfold ulen
  split
  · omega
  · split <;> omega

theorem ulen_self (f : Nat → Int) (n : Nat) (hn : 1 ≤ n) : ulen f (ulen f n) = ulen f n := by
  have h := lead_bd (f 0)
  have h1 : ulen f 1 = 1 := by
    unfold ulen
    split
    · rfl
    · split
      · omega
      · rfl
  by_cases a : n < lead (f 0)
  · have e : ulen f n = 1 := by unfold ulen; rw [if_pos a]
    rw [e, h1]
  · by_cases b : goesOn f (lead (f 0) - 1) = true
    · have e : ulen f n = lead (f 0) := by unfold ulen; rw [if_neg a, if_pos b]
      rw [e]
      unfold ulen
      rw [if_neg (by omega), if_pos b]
    · have e : ulen f n = 1 := by unfold ulen; rw [if_neg a, if_neg b]
      rw [e, h1]

/-- The ways through utf8Len. -/
theorem ulen_short (f : Nat → Int) (n L : Nat) (hL : lead (f 0) = L) (h : n < L) : ulen f n = 1 := by unfold ulen; rw [hL, if_pos h]
theorem ulen_all (f : Nat → Int) (n L : Nat) (hL : lead (f 0) = L) (h : L ≤ n) (hc : ∀ j, j < L - 1 → cont (f (j + 1)) = true) : ulen f n = L := by
  unfold ulen; rw [hL, if_neg (by omega), if_pos ((goesOn_iff f _).2 hc)]
theorem ulen_stop (f : Nat → Int) (n L k : Nat) (hL : lead (f 0) = L) (hk : k < L - 1) (hc : cont (f (k + 1)) = false) : ulen f n = 1 := by
  unfold ulen
  split
  · rfl
  · rw [if_neg]
    intro h
    rw [hL] at h
    have := (goesOn_iff f _).1 h k hk
    rw [hc] at this
    cases this

end Go.Proofs.Qxb6600442aMods.Plain
