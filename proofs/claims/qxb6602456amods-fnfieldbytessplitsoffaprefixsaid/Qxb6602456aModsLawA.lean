/-
  THE WALK OF FnFieldBytesSplitsOffAPrefix.
-/
import Derived.Test.Qxb6602456aModsField
set_option linter.unusedVariables false
namespace Go.Proofs.Qxb6602456aMods.Own
open Go Go.RowKit

theorem zzBytesA_any (a : Option Addr) (n c : Nat) (x y : Value) (w : World) (hn : n ≤ 9223372036854775807) :
    Calls Trym.prog 7 #[.slice a n c, x, y] w fun e w' => e = .returned (.bool (decide (n ≤ 1048576))) ∧ w = w' := by
  by_cases h : n ≤ 1048576
  · go_enter Trym.func7, Trym.ntmps7
    go_wp2
    go_ret
    exact ⟨by simp [h], rfl⟩
  · go_enter Trym.func7, Trym.ntmps7
    go_wp2
    go_ret
    exact ⟨by simp [h], rfl⟩

theorem lawA_long (a0 : Option Addr) (L c : Nat) (sh : Bool) (n : Int) (w : World) (hL : L ≤ 9223372036854775807) (hl : 1048576 < L) :
    Calls Trym.prog 3 #[.slice a0 L c, .bool sh, .int .i64 n] w fun e w' => e = .returned (.bool true) ∧ Below w.heap.size w w' := by
  have hd : decide (L ≤ 1048576) = false := by simp; omega
  go_enter Trym.func3, Trym.ntmps3
  go_wp2_with (go_at_call 7; refine (zzBytesA_any _ _ _ _ _ _ hL).mono ?_; rintro e w' ⟨rfl, rfl⟩; rw [hd])
  go_ret
  exact ⟨rfl, Below.refl _ _⟩

theorem lawA_neg (a0 : Option Addr) (L c : Nat) (sh : Bool) (n : Int) (w : World) (hl : L ≤ 1048576) (hn : n < 0) :
    Calls Trym.prog 3 #[.slice a0 L c, .bool sh, .int .i64 n] w fun e w' => e = .returned (.bool true) ∧ Below w.heap.size w w' := by
  have hd : decide (L ≤ 1048576) = true := by simp; omega
  go_enter Trym.func3, Trym.ntmps3
  go_wp2_with (go_at_call 7; refine (zzBytesA_any _ _ _ _ _ _ (by omega)).mono ?_; rintro e w' ⟨rfl, rfl⟩; rw [hd])
  go_ret
  exact ⟨rfl, Below.refl _ _⟩

theorem isNil (a : Option Addr) (n c : Nat) (wx : World) : Sem.run Trym.prog (binOp .eql 22 (.slice a n c) (.slice none 0 0)) wx = .ok (.bool a.isNone) wx :=
  Lib.run_eql_slice_nil (P := Trym.prog) wx 22 5 a n c 0 0 Trym.underlying22

set_option maxHeartbeats 800000 in
theorem lawA_short (a0 : Option Addr) (L c : Nat) (f : Nat → Int) (sh : Bool) (n : Int) (w : World) (hl : L ≤ 1048576) (hn : (L : Int) < n) (hnil : a0 = none → L = 0 ∧ c = 0) (hrd : Rd w a0 L f) :
    Calls Trym.prog 3 #[.slice a0 L c, .bool sh, .int .i64 n] w fun e w' => e = .returned (.bool true) ∧ Below w.heap.size w w' := by
  have hd : decide (L ≤ 1048576) = true := by simp; omega
  have HRD : Hid (Rd w a0 L f) := hrd
  have HNIL : Hid (a0 = none → L = 0 ∧ c = 0) := hnil
  have hne := isNil
  clear hrd hnil
  go_enter Trym.func3, Trym.ntmps3
  go_wp2_with (first | (go_at_call 7; refine (zzBytesA_any _ _ _ _ _ _ (by omega)).mono ?_; rintro e w' ⟨rfl, rfl⟩; rw [hd]) | (go_at_call 8; refine (clone_any a0 L c f _ hl HNIL.out HRD.out).mono ?_; rintro e w1 ⟨ao, rfl, hao, hrd1, hb1⟩; clear hao hrd1) | (go_at_call 9; refine (zzbytes_short ao L L sh n _ hl hn).mono ?_; rintro e w2 ⟨rfl, hb2⟩))
  go_ret
  exact ⟨rfl, hb1.trans (hb2.mono hb1.size)⟩

set_option maxHeartbeats 800000 in
theorem lawA_fits (a0 : Option Addr) (L c : Nat) (f : Nat → Int) (sh : Bool) (n : Nat) (w : World) (hl : L ≤ 1048576) (hn : n ≤ L) (hnil : a0 = none → L = 0 ∧ c = 0) (hrd : Rd w a0 L f) :
    Calls Trym.prog 3 #[.slice a0 L c, .bool sh, .int .i64 n] w fun e w' => e = .returned (.bool true) ∧ Below w.heap.size w w' := by
  have hd : decide (L ≤ 1048576) = true := by simp; omega
  have HRD : Hid (Rd w a0 L f) := hrd
  have HNIL : Hid (a0 = none → L = 0 ∧ c = 0) := hnil
  have hne := isNil
  clear hrd hnil
  go_enter Trym.func3, Trym.ntmps3
  go_wp2_with (first | (go_at_call 7; refine (zzBytesA_any _ _ _ _ _ _ (by omega)).mono ?_; rintro e w' ⟨rfl, rfl⟩; rw [hd]) | (go_at_call 8; refine (clone_any a0 L c f _ hl HNIL.out HRD.out).mono ?_; rintro e w1 ⟨ao, rfl, hao, hrd1, hb1⟩; have HR1 : Hid (Rd w1 ao L f) := hrd1; clear hao hrd1) | (go_at_call 9; refine (zzbytes_any ao L L f sh n _ hl hn (Nat.le_refl _) (by omega) HR1.out).mono ?_; rintro e w2 ⟨ao2, rfl, hao2, hr2, hr3, hb2⟩; have HR2 : Hid (Rd w2 ao n f) := hr2; have HR3 : Hid (Rd w2 ao2 (L - n) (fun j => f (n + j))) := hr3; have HR4 : Hid (Rd w2 ao L f) := HR1.out.later hb2; clear hr2 hr3))
  go_loop [10] (fun i => ∃ k : Nat, k ≤ L ∧ i = .int .i64 k) (fun i => L - (intOf i).toNat)
  case atStart => exact ⟨0, Nat.zero_le _, rfl⟩
  case round =>
    obtain ⟨k, hk, rfl⟩ := hrel
    by_cases hlt : k < L
    · obtain ⟨g, off, rfl, hc⟩ := HR4.out (by omega)
      have x1 := hc k hlt
      clear hc
      by_cases hkn : k < n
      · go_wp2
        go_round
        case rel => exact ⟨k + 1, by omega, by go_num⟩
        case measure => simp [intOf]; omega
      · obtain ⟨j, rfl⟩ : ∃ j, k = n + j := ⟨k - n, by omega⟩
        obtain ⟨g2, off2, rfl, hc2⟩ := HR3.out (by omega)
        have x2 : w2.cell? ⟨g2, off2 + j, none⟩ = some (.int .u8 (f (n + j))) := hc2 j (by omega)
        clear hc2
        have hj : j < L - n := by omega
        go_wp2
        go_round
        case rel => exact ⟨n + j + 1, by omega, by go_num⟩
        case measure => simp [intOf]; omega
    · go_wp2
      go_ret
      exact ⟨rfl, hb1.trans (hb2.mono hb1.size)⟩

theorem lawA_any (a0 : Option Addr) (L c : Nat) (f : Nat → Int) (sh : Bool) (n : Int) (w : World) (hL : L ≤ 9223372036854775807) (hnil : a0 = none → L = 0 ∧ c = 0) (hrd : Rd w a0 L f) :
    Calls Trym.prog 3 #[.slice a0 L c, .bool sh, .int .i64 n] w fun e w' => e = .returned (.bool true) ∧ Below w.heap.size w w' := by
  by_cases hl : L ≤ 1048576
  · by_cases h0 : n < 0
    · exact lawA_neg a0 L c sh n w hl h0
    · by_cases h1 : (L : Int) < n
      · exact lawA_short a0 L c f sh n w hl h1 hnil hrd
      · obtain ⟨m, rfl⟩ : ∃ m : Nat, n = (m : Int) := ⟨n.toNat, by omega⟩
        exact lawA_fits a0 L c f sh m w hl (by omega) hnil hrd
  · exact lawA_long a0 L c sh n w hL (by omega)

end Go.Proofs.Qxb6602456aMods.Own
