/-
  THE WALKS OF b1EqualBytes AND b1EqualBytesString, WHERE THE TWO ARE EQUAL.
-/
import Derived.Test.Qxb6600442aModsProg
import Derived.Test.Qxb6600442aModsKitB
import Derived.Deep.QuietTactic
import Derived.BigQuiet
set_option linter.unusedVariables false
namespace Go.Proofs.Qxb6600442aMods.Own
open Go Go.RowKit

set_option maxHeartbeats 400000 in
theorem eq_any (a b : Option Addr) (n c d : Nat) (f : Nat → Int) (w : World) (hn : n ≤ 9223372036854775807) (ha : Rd w a n f) (hb : Rd w b n f) :
    Calls Trym.prog 17 #[.slice a n c, .slice b n d] w fun e w' => e = .returned (.bool true) ∧ ∃ q, w' = w.drewN q := by
  have HA : Hid (Rd w a n f) := ha
  have HB : Hid (Rd w b n f) := hb
  clear ha hb
  go_enter Trym.func17, Trym.ntmps17
  go_wp2
  go_loopw [5] (fun i wr => ∃ k q : Nat, k ≤ n ∧ i = .int .i64 k ∧ wr = w.drewN q) (fun i _ => n - (intOf i).toNat)
  case atStart => exact ⟨0, 0, Nat.zero_le _, rfl, rfl⟩
  case round =>
    obtain ⟨k, q, hk, rfl, rfl⟩ := hrel
    by_cases hlt : k < n
    · obtain ⟨g1, o1, rfl, h1⟩ := HA.out (by omega)
      obtain ⟨g2, o2, rfl, h2⟩ := HB.out (by omega)
      have e1 := h1 k hlt
      have e2 := h2 k hlt
      clear h1 h2
      have hi1 : (0 : Int) ≤ (k : Int) := by omega
      have hi2 : (k : Int) < (n : Int) := by omega
      go_wp2
      go_quiet (fail)
      go_wp2
      go_roundw
      case rel => exact ⟨k + 1, _, by omega, by go_num, rfl⟩
      case measure => simp [intOf]; omega
    · go_wp2
      go_ret
      exact ⟨rfl, q, rfl⟩
end Go.Proofs.Qxb6600442aMods.Own
