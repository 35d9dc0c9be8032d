/-
  WHAT appendPGLiteral WRITES, AS LISTS OF NUMBERS: no Go in sight.
-/
import Derived.WalkKit
set_option linter.unusedVariables false
namespace Go.Proofs.Qxb6600442aMods.Plain

/-- One byte, doubled where it is a quote or a backslash. -/
def piece (c : Int) : List Int := if c = 39 ∨ c = 92 then [c, c] else [c]
/-- The first k bytes of f, each as its piece. -/
def esc (f : Nat → Int) : Nat → List Int
  | 0 => []
  | k + 1 => esc f k ++ piece (f k)

theorem piece_two {c : Int} (h : c = 39 ∨ c = 92) : piece c = [c, c] := if_pos h
theorem piece_one {c : Int} (h : ¬ (c = 39 ∨ c = 92)) : piece c = [c] := if_neg h
theorem piece_length (c : Int) : 1 ≤ (piece c).length ∧ (piece c).length ≤ 2 := by unfold piece; split <;> simp
theorem esc_length (f : Nat → Int) (k : Nat) : k ≤ (esc f k).length ∧ (esc f k).length ≤ 2 * k := by
  induction k with
  | zero => simp [esc]
  | succ k ih => have := piece_length (f k); simp only [esc, List.length_append]; omega
theorem esc_congr (f g : Nat → Int) (k : Nat) (h : ∀ j, j < k → f j = g j) : esc f k = esc g k := by
  induction k with
  | zero => rfl
  | succ k ih => simp only [esc]; rw [ih (fun j hj => h j (by omega)), h k (by omega)]
/-- Byte by byte: the pieces of a joined text are the pieces of its two parts. -/
theorem esc_join (f g h : Nat → Int) (a b : Nat) (hf : ∀ j, j < a → h j = f j) (hg : ∀ j, j < b → h (a + j) = g j) : esc h (a + b) = esc f a ++ esc g b := by
  induction b with
  | zero => simp [esc, esc_congr h f a hf]
  | succ b ih =>
    show esc h (a + b) ++ piece (h (a + b)) = esc f a ++ (esc g b ++ piece (g b))
    rw [ih (fun j hj => hg j (by omega)), hg b (by omega), List.append_assoc]
/-- From the k-th piece on. -/
theorem esc_split (f : Nat → Int) (k d : Nat) : ∃ r, esc f (k + d) = esc f k ++ r := by
  induction d with
  | zero => exact ⟨[], by simp⟩
  | succ d ih =>
    obtain ⟨r, hr⟩ := ih
    exact ⟨r ++ piece (f (k + d)), by show esc f (k + d) ++ piece (f (k + d)) = _; rw [hr, List.append_assoc]⟩

/-- What stands behind the first k bytes were appended to b. -/
def lit0 (b : List Int) (f : Nat → Int) (k : Nat) : List Int := b ++ [69, 39] ++ esc f k
/-- The whole literal, appended to b. -/
def lit (b : List Int) (f : Nat → Int) (m : Nat) : List Int := lit0 b f m ++ [39]

theorem lit0_zero (b : List Int) (f : Nat → Int) : lit0 b f 0 = b ++ [69, 39] := by simp [lit0, esc]
theorem lit0_two {b : List Int} {f : Nat → Int} {k : Nat} (h : f k = 39 ∨ f k = 92) : lit0 b f (k + 1) = lit0 b f k ++ [f k] ++ [f k] := by
  simp [lit0, esc, piece_two h]
theorem lit0_one {b : List Int} {f : Nat → Int} {k : Nat} (h : ¬ (f k = 39 ∨ f k = 92)) : lit0 b f (k + 1) = lit0 b f k ++ [f k] := by
  simp [lit0, esc, piece_one h]
theorem lit0_length (b : List Int) (f : Nat → Int) (k : Nat) : b.length + 2 + k ≤ (lit0 b f k).length ∧ (lit0 b f k).length ≤ b.length + 2 + 2 * k := by
  have := esc_length f k
  simp only [lit0, List.length_append, List.length_cons, List.length_nil]
  omega
theorem lit_length (b : List Int) (f : Nat → Int) (k : Nat) : (lit b f k).length = b.length + 3 + (esc f k).length := by
  simp [lit, lit0]; omega
end Go.Proofs.Qxb6600442aMods.Plain
