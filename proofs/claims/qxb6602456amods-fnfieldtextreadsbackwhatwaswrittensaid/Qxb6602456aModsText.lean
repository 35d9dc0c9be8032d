/-
  THE WALKS OF ZZFieldText ((*fieldReader).text and bytes walked in place).
-/
import Derived.Test.Qxb6602456aModsField
set_option linter.unusedVariables false
namespace Go.Proofs.Qxb6602456aMods.Own
open Go Go.RowKit

set_option maxHeartbeats 400000 in
theorem zztext_empty (ao : Option Addr) (c : Nat) (sh : Bool) (w : World) :
    Calls Trym.prog 13 #[.slice ao 0 c, .bool sh] w fun e w' => e = .returned (.tuple #[.string ByteArray.empty, .slice none 0 0, .bool true]) ∧ Below w.heap.size w w' := by
  go_enter Trym.func13, Trym.ntmps13
  go_wp2
  go_quiet (fail)
  go_wp2
  go_ret3
  exact ⟨rfl, below_drewN ((Below.refl _ _).alloc (Nat.le_refl _) _) _⟩

set_option maxHeartbeats 800000 in
theorem zztext_short (g off L c k : Nat) (sh : Bool) (w : World) (h1 : 1 ≤ L) (hL : L ≤ 1048576) (hc : L ≤ c) (hcm : c ≤ 9223372036854775807) (hk : L ≤ k) (hkb : k ≤ 255) (h0 : w.cell? ⟨g, off, none⟩ = some (.int .u8 k)) :
    Calls Trym.prog 13 #[.slice (some ⟨g, off, none⟩) L c, .bool sh] w fun e w' => e = .returned (.tuple #[.string ByteArray.empty, .slice none 0 0, .bool true]) ∧ Below w.heap.size w w' := by
  have hcv := fun wx => run_convert_bytes_nil (P := Trym.prog) wx 22 5 Trym.underlying22 Trym.underlying5 0 0 9 Trym.underlying9
  have h0' : ∀ o, (w.alloc o).cell? ⟨g, off, none⟩ = some (.int .u8 k) := fun o => cell_later ((Below.refl _ _).alloc (Nat.le_refl _) _) h0
  go_enter Trym.func13, Trym.ntmps13
  go_wp2
  all_goals
    go_quiet (fail)
    go_wp2
    go_ret3
    exact ⟨rfl, below_drewN ((Below.refl _ _).alloc (Nat.le_refl _) _) _⟩

/-- The string that is made of k bytes. -/
def strOf (k : Nat) (f : Nat → Int) : ByteArray := strOfNums (listOf k f)
theorem strOf_size (k : Nat) (f : Nat → Int) : (strOf k f).size = k := by unfold strOf; rw [strOfNums_size, listOf_length]
theorem strOf_get (k : Nat) (f : Nat → Int) (hf : ∀ j, j < k → 0 ≤ f j ∧ f j ≤ 255) : ∀ (j : Nat) (h : j < (strOf k f).size), (((strOf k f)[j]'h).toNat : Int) = f j := by
  intro j h
  have hj : j < k := by rw [strOf_size] at h; exact h
  have hb := hf j hj
  have e : (strOf k f)[j]'h = UInt8.ofNat (f j).toNat := by
    simp [strOf, strOfNums, ByteArray.getElem_eq_getElem_data, listOf]
  rw [e, UInt8.toNat_ofNat']
  omega

theorem conv_any (g off k c : Nat) (f : Nat → Int) (w : World) (hc : ∀ j, j < k → w.cell? ⟨g, off + j, none⟩ = some (.int .u8 (f j))) :
    ∀ o, (convert 22 9 (.slice (some ⟨g, off, none⟩) k c)).run Trym.prog (w.alloc o) = .ok (.string (strOf k f)) (w.alloc o) := by
  intro o
  refine run_convert_bytes_arg (P := Trym.prog) (w.alloc o) 22 5 Trym.underlying22 Trym.underlying5 g off k c (listOf k f) (listOf_length k f) (fun j hj => ?_) 9 Trym.underlying9
  have e : (listOf k f).getD j 0 = f j := listOf_at hj
  rw [e]
  exact cell_later ((Below.refl _ _).alloc (Nat.le_refl _) _) (hc j hj)

set_option maxHeartbeats 800000 in
/-- One byte, a zero, no room behind it. -/
theorem zztext_X (g off : Nat) (f : Nat → Int) (sh : Bool) (w : World) (h0 : w.cell? ⟨g, off, none⟩ = some (.int .u8 0)) :
    Calls Trym.prog 13 #[.slice (some ⟨g, off, none⟩) 1 1, .bool sh] w fun e w' => e = .returned (.tuple #[.string (strOf 0 f), .slice (some ⟨g, off, none⟩) 0 0, .bool sh]) ∧ Below w.heap.size w w' := by
  have h0' : ∀ o, (w.alloc o).cell? ⟨g, off, none⟩ = some (.int .u8 0) := fun o => cell_later ((Below.refl _ _).alloc (Nat.le_refl _) _) h0
  have hcv := conv_any g off 0 0 f w (fun j hj => absurd hj (by omega))
  go_enter Trym.func13, Trym.ntmps13
  go_wp2
  go_quiet (fail)
  go_wp2
  go_ret3
  exact ⟨rfl, below_drewN ((Below.refl _ _).alloc (Nat.le_refl _) _) _⟩

set_option maxHeartbeats 800000 in
/-- k bytes behind the first, no room behind them. -/
theorem zztext_Y (g off k : Nat) (f : Nat → Int) (sh : Bool) (w : World) (hk1 : 1 ≤ k) (hkb : k ≤ 255) (h0 : w.cell? ⟨g, off, none⟩ = some (.int .u8 k)) (hc : ∀ j, j < k → w.cell? ⟨g, off + 1 + j, none⟩ = some (.int .u8 (f j))) :
    Calls Trym.prog 13 #[.slice (some ⟨g, off, none⟩) (k + 1) (k + 1), .bool sh] w fun e w' => e = .returned (.tuple #[.string (strOf k f), .slice (some ⟨g, off + 1, none⟩) 0 0, .bool sh]) ∧ Below w.heap.size w w' := by
  have h0' : ∀ o, (w.alloc o).cell? ⟨g, off, none⟩ = some (.int .u8 k) := fun o => cell_later ((Below.refl _ _).alloc (Nat.le_refl _) _) h0
  have hcv := conv_any g (off + 1) k k f w hc
  clear hc
  go_enter Trym.func13, Trym.ntmps13
  go_wp2
  go_quiet (fail)
  go_wp2
  go_ret3
  exact ⟨rfl, below_drewN ((Below.refl _ _).alloc (Nat.le_refl _) _) _⟩

set_option maxHeartbeats 800000 in
/-- k bytes behind the first, and room behind them. -/
theorem zztext_Z (g off k L c : Nat) (f : Nat → Int) (sh : Bool) (w : World) (hkL : k + 1 ≤ L) (hL : L ≤ 1048576) (hLc : L ≤ c) (hcm : c ≤ 9223372036854775807) (hc1 : ¬ c = 1) (hc2 : ¬ c - 1 = k) (hkb : k ≤ 255) (h0 : w.cell? ⟨g, off, none⟩ = some (.int .u8 k)) (hc : ∀ j, j < k → w.cell? ⟨g, off + 1 + j, none⟩ = some (.int .u8 (f j))) :
    Calls Trym.prog 13 #[.slice (some ⟨g, off, none⟩) L c, .bool sh] w fun e w' => e = .returned (.tuple #[.string (strOf k f), .slice (some ⟨g, off + 1 + k, none⟩) (L - 1 - k) (c - 1 - k), .bool sh]) ∧ Below w.heap.size w w' := by
  have h0' : ∀ o, (w.alloc o).cell? ⟨g, off, none⟩ = some (.int .u8 k) := fun o => cell_later ((Below.refl _ _).alloc (Nat.le_refl _) _) h0
  have hcv := conv_any g (off + 1) k (c - 1) f w hc
  clear hc
  go_enter Trym.func13, Trym.ntmps13
  go_wp2
  go_quiet (fail)
  go_wp2
  go_ret3
  exact ⟨rfl, below_drewN ((Below.refl _ _).alloc (Nat.le_refl _) _) _⟩

/-- A text of k bytes that is there, and r bytes behind it. -/
theorem zztext_any (g off L c k r : Nat) (f : Nat → Int) (sh : Bool) (w : World) (hr : 1 + k + r = L) (hL : L ≤ 1048576) (hLc : L ≤ c) (hcm : c ≤ 9223372036854775807) (hk : f 0 = k) (hkb : k ≤ 255) (hrd : Rd w (some ⟨g, off, none⟩) L f) :
    Calls Trym.prog 13 #[.slice (some ⟨g, off, none⟩) L c, .bool sh] w fun e w' => ∃ g' off' c', e = .returned (.tuple #[.string (strOf k (fun j => f (1 + j))), .slice (some ⟨g', off', none⟩) r c', .bool sh]) ∧ r ≤ c' ∧ c' ≤ c ∧
      Rd w' (some ⟨g', off', none⟩) r (fun j => f (1 + k + j)) ∧ Below w.heap.size w w' := by
  obtain ⟨g1, off1, e1, hc⟩ := hrd (by omega)
  cases e1
  have h0 : w.cell? ⟨g, off, none⟩ = some (.int .u8 k) := by have := hc 0 (by omega); rwa [hk] at this
  have hcs : ∀ j, j < k → w.cell? ⟨g, off + 1 + j, none⟩ = some (.int .u8 (f (1 + j))) := fun j hj => by
    have := hc (1 + j) (by omega)
    rwa [← Nat.add_assoc] at this
  by_cases hc1 : c = 1
  · subst hc1
    obtain rfl : k = 0 := by omega
    obtain rfl : r = 0 := by omega
    subst hr
    refine (zztext_X g off (fun j => f (1 + j)) sh w h0).mono ?_
    rintro e w' ⟨rfl, hb⟩
    exact ⟨g, off, 0, rfl, Nat.le_refl _, by omega, (fun h => absurd h (by omega)), hb⟩
  · by_cases hc2 : c - 1 = k
    · obtain rfl : r = 0 := by omega
      obtain rfl : L = k + 1 := by omega
      obtain rfl : c = k + 1 := by omega
      refine (zztext_Y g off k (fun j => f (1 + j)) sh w (by omega) hkb h0 hcs).mono ?_
      rintro e w' ⟨rfl, hb⟩
      exact ⟨g, off + 1, 0, rfl, Nat.le_refl _, by omega, (fun h => absurd h (by omega)), hb⟩
    · refine (zztext_Z g off k L c (fun j => f (1 + j)) sh w (by omega) hL hLc hcm hc1 hc2 hkb h0 hcs).mono ?_
      rintro e w' ⟨rfl, hb⟩
      have e2 : L - 1 - k = r := by omega
      rw [e2]
      refine ⟨g, off + 1 + k, c - 1 - k, rfl, by omega, by omega, (fun _ => ⟨_, _, rfl, fun j hj => ?_⟩), hb⟩
      have := hc (1 + k + j) (by omega)
      rw [show off + (1 + k + j) = off + 1 + k + j by omega] at this
      exact cell_later hb this

end Go.Proofs.Qxb6602456aMods.Own
