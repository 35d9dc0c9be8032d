/-
  THE WALK OF FnFieldTextSplitsLengthTextRest.
-/
import Derived.Test.Qxb6602456aModsText
set_option linter.unusedVariables false
namespace Go.Proofs.Qxb6602456aMods.Own
open Go Go.RowKit

/-- The text as a letter. -/
theorem zztext_str (g off L c k r : Nat) (f : Nat → Int) (sh : Bool) (w : World) (hr : 1 + k + r = L) (hL : L ≤ 1048576) (hLc : L ≤ c) (hcm : c ≤ 9223372036854775807) (hk : f 0 = k) (hf : ∀ j, j < L → 0 ≤ f j ∧ f j ≤ 255) (hrd : Rd w (some ⟨g, off, none⟩) L f) :
    Calls Trym.prog 13 #[.slice (some ⟨g, off, none⟩) L c, .bool sh] w fun e w' => ∃ S g' off' c', e = .returned (.tuple #[.string S, .slice (some ⟨g', off', none⟩) r c', .bool sh]) ∧ S.size = k ∧ (∀ (j : Nat) (h : j < S.size), ((S[j]'h).toNat : Int) = f (1 + j)) ∧ r ≤ c' ∧ c' ≤ c ∧
      Rd w' (some ⟨g', off', none⟩) r (fun j => f (1 + k + j)) ∧ Below w.heap.size w w' := by
  have h0 := hf 0 (by omega)
  rw [hk] at h0
  refine (zztext_any g off L c k r f sh w hr hL hLc hcm hk (by omega) hrd).mono ?_
  rintro e w' ⟨g', off', c', rfl, h1, h2, h3, h4⟩
  exact ⟨_, g', off', c', rfl, strOf_size _ _, strOf_get _ _ (fun j hj => hf (1 + j) (by omega)), h1, h2, h3, h4⟩

theorem zzBytesC_any (a : Option Addr) (n c : Nat) (x : Value) (w : World) (hn : n ≤ 9223372036854775807) :
    Calls Trym.prog 12 #[.slice a n c, x] w fun e w' => e = .returned (.bool (decide (n ≤ 1048576))) ∧ w = w' := by
  by_cases h : n ≤ 1048576
  · go_enter Trym.func12, Trym.ntmps12
    go_wp2
    go_ret
    exact ⟨by simp [h], rfl⟩
  · go_enter Trym.func12, Trym.ntmps12
    go_wp2
    go_ret
    exact ⟨by simp [h], rfl⟩

theorem lawC_long (a0 : Option Addr) (L c : Nat) (sh : Bool) (w : World) (hL : L ≤ 9223372036854775807) (hl : 1048576 < L) :
    Calls Trym.prog 5 #[.slice a0 L c, .bool sh] w fun e w' => e = .returned (.bool true) ∧ Below w.heap.size w w' := by
  have hd : decide (L ≤ 1048576) = false := by simp; omega
  go_enter Trym.func5, Trym.ntmps5
  go_wp2_with (go_at_call 12; refine (zzBytesC_any _ _ _ _ _ hL).mono ?_; rintro e w' ⟨rfl, rfl⟩; rw [hd])
  go_ret
  exact ⟨rfl, Below.refl _ _⟩

theorem isNilC (a : Option Addr) (n c : Nat) (wx : World) : Sem.run Trym.prog (binOp .eql 22 (.slice a n c) (.slice none 0 0)) wx = .ok (.bool a.isNone) wx :=
  Lib.run_eql_slice_nil (P := Trym.prog) wx 22 5 a n c 0 0 Trym.underlying22

set_option maxHeartbeats 800000 in
theorem lawC_empty (a0 : Option Addr) (c : Nat) (f : Nat → Int) (sh : Bool) (w : World) (hnil : a0 = none → c = 0) :
    Calls Trym.prog 5 #[.slice a0 0 c, .bool sh] w fun e w' => e = .returned (.bool true) ∧ Below w.heap.size w w' := by
  have hd : decide (0 ≤ 1048576) = true := rfl
  have HNIL : Hid (a0 = none → c = 0) := hnil
  have hne := isNilC
  clear hnil
  go_enter Trym.func5, Trym.ntmps5
  go_wp2_with (first | (go_at_call 12; refine (zzBytesC_any _ _ _ _ _ (by omega)).mono ?_; rintro e w' ⟨rfl, rfl⟩; rw [hd]) | (go_at_call 8; refine (clone_any a0 0 c f _ (by omega) (fun h => ⟨rfl, HNIL.out h⟩) (fun h => absurd h (by omega))).mono ?_; rintro e w1 ⟨ao, rfl, hao, hrd1, hb1⟩; clear hao hrd1) | (go_at_call 13; refine (zztext_empty ao 0 sh _).mono ?_; rintro e w2 ⟨rfl, hb2⟩))
  go_ret
  exact ⟨rfl, hb1.trans (hb2.mono hb1.size)⟩

set_option maxHeartbeats 800000 in
theorem lawC_short (a0 : Option Addr) (L c k : Nat) (f : Nat → Int) (sh : Bool) (w : World) (h1 : 1 ≤ L) (hl : L ≤ 1048576) (hk : f 0 = k) (hkL : L ≤ k) (hkb : k ≤ 255) (hnil : a0 = none → L = 0 ∧ c = 0) (hrd : Rd w a0 L f) :
    Calls Trym.prog 5 #[.slice a0 L c, .bool sh] w fun e w' => e = .returned (.bool true) ∧ Below w.heap.size w w' := by
  have hd : decide (L ≤ 1048576) = true := by simp; omega
  have HRD : Hid (Rd w a0 L f) := hrd
  have HNIL : Hid (a0 = none → L = 0 ∧ c = 0) := hnil
  have HK : Hid (f 0 = k) := hk
  have hne := isNilC
  clear hnil hrd hk
  go_enter Trym.func5, Trym.ntmps5
  go_wp2_with (first | (go_at_call 12; refine (zzBytesC_any _ _ _ _ _ (by omega)).mono ?_; rintro e w' ⟨rfl, rfl⟩; rw [hd]) | (go_at_call 8; refine (clone_any a0 L c f _ hl HNIL.out HRD.out).mono ?_; rintro e w1 ⟨ao, rfl, hao, hrd1, hb1⟩; obtain ⟨g, off, rfl, hcl⟩ := hrd1 (by omega); have x0 : w1.cell? ⟨g, off, none⟩ = some (.int .u8 k) := (by have := hcl 0 (by omega); rwa [HK.out] at this); clear hao hrd1 hcl) | (go_at_call 13; refine (zztext_short g off L L k sh _ h1 hl (Nat.le_refl _) (by omega) hkL hkb x0).mono ?_; rintro e w2 ⟨rfl, hb2⟩; have x2 := cell_later hb2 x0))
  go_ret
  exact ⟨rfl, hb1.trans (hb2.mono hb1.size)⟩

set_option maxHeartbeats 800000 in
theorem lawC_fits (a0 : Option Addr) (L c k r : Nat) (f : Nat → Int) (sh : Bool) (w : World) (hr : 1 + k + r = L) (hl : L ≤ 1048576) (hk : f 0 = k) (hf : ∀ j, j < L → 0 ≤ f j ∧ f j ≤ 255) (hnil : a0 = none → L = 0 ∧ c = 0) (hrd : Rd w a0 L f) :
    Calls Trym.prog 5 #[.slice a0 L c, .bool sh] w fun e w' => e = .returned (.bool true) ∧ Below w.heap.size w w' := by
  have hd : decide (L ≤ 1048576) = true := by simp; omega
  have HRD : Hid (Rd w a0 L f) := hrd
  have HNIL : Hid (a0 = none → L = 0 ∧ c = 0) := hnil
  have HK : Hid (f 0 = k) := hk
  have HR : Hid (1 + k + r = L) := hr
  have HF : Hid (∀ j, j < L → 0 ≤ f j ∧ f j ≤ 255) := hf
  have h1 : 1 ≤ L := by omega
  have hkL : k + 1 ≤ L := by omega
  have hkL2 : k + 1 + r ≤ L := by omega
  have hne := isNilC
  clear hnil hrd hk hr hf
  go_enter Trym.func5, Trym.ntmps5
  go_wp2_with (first | (go_at_call 12; refine (zzBytesC_any _ _ _ _ _ (by omega)).mono ?_; rintro e w' ⟨rfl, rfl⟩; rw [hd]) | (go_at_call 8; refine (clone_any a0 L c f _ hl HNIL.out HRD.out).mono ?_; rintro e w1 ⟨ao, rfl, hao, hrd1, hb1⟩; obtain ⟨g, off, rfl, hcl⟩ := hrd1 (by omega); have x0 : w1.cell? ⟨g, off, none⟩ = some (.int .u8 k) := (by have := hcl 0 (by omega); rwa [HK.out] at this); have HR1 : Hid (Rd w1 (some ⟨g, off, none⟩) L f) := hrd1; clear hao hrd1 hcl))
  refine (zztext_str g off L L k r f sh _ HR.out hl (Nat.le_refl _) (by omega) HK.out HF.out HR1.out).mono ?_
  rintro e w2 ⟨S, g2, off2, c2, rfl, hS, hSb, hc2, hc3, hr2, hb2⟩
  have x2 := cell_later hb2 x0
  have R1 : Hid (Rd w2 (some ⟨g, off, none⟩) L f) := HR1.out.later hb2
  have R2 : Hid (Rd w2 (some ⟨g2, off2, none⟩) r (fun j => f (1 + k + j))) := hr2
  subst hS
  clear HR1 hr2 HRD x0
  have t1 : ((L : Int) == 0) = false := by simp; omega
  have t2 : ((1 : Int) + (S.size : Int) + (r : Int) != (L : Int)) = false := by have := HR.out; simp; omega
  have t3 : ¬ ((L : Int) - 1 < (S.size : Int)) := by omega
  go_wp2
  go_loopw [9] (fun i wr => ∃ k q : Nat, k ≤ S.size ∧ i = .int .i64 k ∧ wr = w2.drewN q) (fun i _ => S.size - (intOf i).toNat)
  case atStart => exact ⟨0, 0, Nat.zero_le _, rfl, rfl⟩
  case round =>
    obtain ⟨k, q, hk, rfl, rfl⟩ := hrel
    by_cases hlt : k < S.size
    · obtain ⟨g3, o3, e3, h3⟩ := R1.out (by omega)
      cases e3
      have y1 := h3 (1 + k) (by omega)
      clear h3
      have hi1 : (0 : Int) ≤ (k : Int) := by omega
      have hi2 : (k : Int) < (S.size : Int) := by omega
      have hi3 : (1 : Int) + (k : Int) < (L : Int) := by omega
      have hi4 : (0 : Int) ≤ 1 + (k : Int) := by omega
      go_wp2
      go_quiet (fail)
      go_wp2
      go_roundw
      case rel => exact ⟨k + 1, _, by omega, by go_num, rfl⟩
      case measure => simp [intOf]; omega
    · go_wp2
      go_loopw [10] (fun i wr => ∃ k q : Nat, k ≤ r ∧ i = .int .i64 k ∧ wr = w2.drewN q) (fun i _ => r - (intOf i).toNat)
      case atStart => exact ⟨0, q, Nat.zero_le _, rfl, rfl⟩
      case round =>
        obtain ⟨j, q', hj, rfl, rfl⟩ := hrel
        by_cases hjt : j < r
        · obtain ⟨g3, o3, e3, h3⟩ := R1.out (by omega)
          cases e3
          obtain ⟨g4, o4, e4, h4⟩ := R2.out (by omega)
          cases e4
          have y1 := h3 (1 + S.size + j) (by omega)
          have y2 := h4 j hjt
          clear h3 h4
          have hi1 : (0 : Int) ≤ (j : Int) := by omega
          have hi2 : (j : Int) < (r : Int) := by omega
          have hi3 : (1 : Int) + (S.size : Int) + (j : Int) < (L : Int) := by omega
          have hi4 : (0 : Int) ≤ 1 + (S.size : Int) + (j : Int) := by omega
          go_wp2
          go_quiet (fail)
          go_wp2
          go_roundw
          case rel => exact ⟨j + 1, _, by omega, by go_num, rfl⟩
          case measure => simp [intOf]; omega
        · go_wp2
          go_ret
          exact ⟨rfl, below_drewN (hb1.trans (hb2.mono hb1.size)) q'⟩

theorem lawC_any (a0 : Option Addr) (L c : Nat) (f : Nat → Int) (sh : Bool) (w : World) (hL : L ≤ 9223372036854775807) (hf : ∀ j, j < L → 0 ≤ f j ∧ f j ≤ 255) (hnil : a0 = none → L = 0 ∧ c = 0) (hrd : Rd w a0 L f) :
    Calls Trym.prog 5 #[.slice a0 L c, .bool sh] w fun e w' => e = .returned (.bool true) ∧ Below w.heap.size w w' := by
  by_cases hl : L ≤ 1048576
  · by_cases h0 : L = 0
    · subst h0
      exact lawC_empty a0 c f sh w (fun h => (hnil h).2)
    · have hb := hf 0 (by omega)
      obtain ⟨k, hk⟩ : ∃ k : Nat, f 0 = (k : Int) := ⟨(f 0).toNat, by omega⟩
      by_cases hkL : L ≤ k
      · exact lawC_short a0 L c k f sh w (by omega) hl hk hkL (by omega) hnil hrd
      · exact lawC_fits a0 L c k (L - 1 - k) f sh w (by omega) hl hk hf hnil hrd
  · exact lawC_long a0 L c sh w hL (by omega)

end Go.Proofs.Qxb6602456aMods.Own
