/-
  THE WALK OF FnFieldBytesTwoReadsAsOne.
-/
import Derived.Test.Qxb6602456aModsField
set_option linter.unusedVariables false
namespace Go.Proofs.Qxb6602456aMods.Own
open Go Go.RowKit

theorem zzBytesB_any (a : Option Addr) (n c : Nat) (x y z : Value) (w : World) (hn : n ≤ 9223372036854775807) :
    Calls Trym.prog 10 #[.slice a n c, x, y, z] w fun e w' => e = .returned (.bool (decide (n ≤ 1048576))) ∧ w = w' := by
  by_cases h : n ≤ 1048576
  · go_enter Trym.func10, Trym.ntmps10
    go_wp2
    go_ret
    exact ⟨by simp [h], rfl⟩
  · go_enter Trym.func10, Trym.ntmps10
    go_wp2
    go_ret
    exact ⟨by simp [h], rfl⟩

theorem lawB_long (a0 : Option Addr) (L c : Nat) (sh : Bool) (n m : Int) (w : World) (hL : L ≤ 9223372036854775807) (hl : 1048576 < L) :
    Calls Trym.prog 4 #[.slice a0 L c, .bool sh, .int .i64 n, .int .i64 m] w fun e w' => e = .returned (.bool true) ∧ Below w.heap.size w w' := by
  have hd : decide (L ≤ 1048576) = false := by simp; omega
  go_enter Trym.func4, Trym.ntmps4
  go_wp2_with (go_at_call 10; refine (zzBytesB_any _ _ _ _ _ _ _ hL).mono ?_; rintro e w' ⟨rfl, rfl⟩; rw [hd])
  go_ret
  exact ⟨rfl, Below.refl _ _⟩

theorem lawB_out (a0 : Option Addr) (L c : Nat) (sh : Bool) (n m : Int) (w : World) (hl : L ≤ 1048576) (hm1 : m ≤ 9223372036854775807) (h : n < 0 ∨ (0 ≤ n ∧ m < 0) ∨ (0 ≤ n ∧ 0 ≤ m ∧ 9223372036854775807 - m < n)) :
    Calls Trym.prog 4 #[.slice a0 L c, .bool sh, .int .i64 n, .int .i64 m] w fun e w' => e = .returned (.bool true) ∧ Below w.heap.size w w' := by
  have hd : decide (L ≤ 1048576) = true := by simp; omega
  rcases h with h | ⟨h1, h2⟩ | ⟨h1, h2, h3⟩
  all_goals
    go_enter Trym.func4, Trym.ntmps4
    go_wp2_with (go_at_call 10; refine (zzBytesB_any _ _ _ _ _ _ _ (by omega)).mono ?_; rintro e w' ⟨rfl, rfl⟩; rw [hd])
    go_ret
    exact ⟨rfl, Below.refl _ _⟩

theorem isNilB (a : Option Addr) (n c : Nat) (wx : World) : Sem.run Trym.prog (binOp .eql 22 (.slice a n c) (.slice none 0 0)) wx = .ok (.bool a.isNone) wx :=
  Lib.run_eql_slice_nil (P := Trym.prog) wx 22 5 a n c 0 0 Trym.underlying22

/-- A read out of a slice without spare room, its lengths named. -/
theorem zzbytes_full (ao : Option Addr) (L n r : Nat) (N : Int) (f : Nat → Int) (sh : Bool) (w : World) (hL : L ≤ 1048576) (h : n + r = L) (hN : N = n) (hrd : Rd w ao L f) :
    Calls Trym.prog 9 #[.slice ao L L, .bool sh, .int .i64 N] w fun e w' => ∃ ao', e = .returned (.tuple #[.slice ao n L, .slice ao' r r, .bool sh]) ∧ ao'.isNone = ao.isNone ∧ Rd w' ao n f ∧ Rd w' ao' r (fun j => f (n + j)) ∧ Below w.heap.size w w' := by
  have hr : r = L - n := by omega
  subst hr
  subst hN
  exact zzbytes_any ao L L f sh n w hL (by omega) (Nat.le_refl _) (by omega) hrd

set_option maxHeartbeats 1600000 in
/-- All n+m bytes are there. -/
theorem lawB_fits (a0 : Option Addr) (L c : Nat) (f : Nat → Int) (sh : Bool) (n m q p : Nat) (w : World) (hl : L ≤ 1048576) (hq : n + q = L) (hp : m + p = q) (hnil : a0 = none → L = 0 ∧ c = 0) (hrd : Rd w a0 L f) :
    Calls Trym.prog 4 #[.slice a0 L c, .bool sh, .int .i64 n, .int .i64 m] w fun e w' => e = .returned (.bool true) ∧ Below w.heap.size w w' := by
  have hd : decide (L ≤ 1048576) = true := by simp; omega
  have HRD : Hid (Rd w a0 L f) := hrd
  have HNIL : Hid (a0 = none → L = 0 ∧ c = 0) := hnil
  have hne := isNilB
  have HQ : Hid (n + q = L) := hq
  have HP : Hid (m + p = q) := hp
  have hnm : n + m ≤ L := by omega
  have hpl : p ≤ L := by omega
  clear hrd hnil hq hp
  go_enter Trym.func4, Trym.ntmps4
  go_wp2_with (first | (go_at_call 10; refine (zzBytesB_any _ _ _ _ _ _ _ (by omega)).mono ?_; rintro e w' ⟨rfl, rfl⟩; rw [hd]) | (go_at_call 8; refine (clone_any a0 L c f _ hl HNIL.out HRD.out).mono ?_; rintro e w1 ⟨ao, rfl, hao, hrd1, hb1⟩; have HR1 : Hid (Rd w1 ao L f) := hrd1; clear hao hrd1))
  refine (zzbytes_full ao L n q _ f sh _ hl HQ.out rfl HR1.out).mono ?_
  rintro e w2 ⟨ao2, rfl, hao2, hr2, hr3, hb2⟩
  have hql : q ≤ L := by have := HQ.out; omega
  have R1 : Hid (Rd w2 ao L f) := HR1.out.later hb2
  have R3 : Hid (Rd w2 ao2 q (fun j => f (n + j))) := hr3
  clear hr2 hr3 HR1
  go_wp2_with fail
  refine (zzbytes_full ao2 q m p _ (fun j => f (n + j)) sh _ (by omega) HP.out rfl R3.out).mono ?_
  rintro e w3 ⟨ao3, rfl, hao3, hr4, hr5, hb3⟩
  have S1 : Hid (Rd w3 ao L f) := R1.out.later hb3
  have S4 : Hid (Rd w3 ao2 m (fun j => f (n + j))) := hr4
  have S5 : Hid (Rd w3 ao3 p (fun j => f (n + (m + j)))) := hr5
  clear hr4 hr5 R1 R3
  go_wp2_with fail
  refine (zzbytes_full ao L (n + m) p _ f sh _ hl (by have := HQ.out; have := HP.out; omega) (by omega) S1.out).mono ?_
  rintro e w4 ⟨ao4, rfl, hao4, hr6, hr7, hb4⟩
  have T1 : Hid (Rd w4 ao L f) := S1.out.later hb4
  have T4 : Hid (Rd w4 ao2 m (fun j => f (n + j))) := S4.out.later hb4
  have T5 : Hid (Rd w4 ao3 p (fun j => f (n + m + j))) := (S5.out.later hb4).congr (fun j _ => by rw [Nat.add_assoc])
  have T7 : Hid (Rd w4 ao4 p (fun j => f (n + m + j))) := hr7
  have B4 : Below w.heap.size w w4 := ((hb1.trans (hb2.mono hb1.size)).trans (hb3.mono (Nat.le_trans hb1.size hb2.size))).trans (hb4.mono (Nat.le_trans hb1.size (Nat.le_trans hb2.size hb3.size)))
  clear hr6 hr7 S1 S4 S5 hb1 hb2 hb3 hb4
  go_wp2_with (first | (go_at_call 11; refine (eq_any _ _ p _ _ (fun j => f (n + m + j)) _ (by omega) T5.out T7.out).mono ?_; rintro e w5 ⟨rfl, q5, rfl⟩))
  go_loop [18] (fun i => ∃ k : Nat, k ≤ n + m ∧ i = .int .i64 k) (fun i => n + m - (intOf i).toNat)
  case atStart => exact ⟨0, Nat.zero_le _, rfl⟩
  case round =>
    obtain ⟨k, hk, rfl⟩ := hrel
    by_cases hlt : k < n + m
    · obtain ⟨g, off, rfl, hc⟩ := T1.out (by omega)
      have x1 := hc k (by omega)
      clear hc
      by_cases hkn : k < n
      · go_wp2
        go_round
        case rel => exact ⟨k + 1, by omega, by go_num⟩
        case measure => simp [intOf]; omega
      · obtain ⟨j, rfl⟩ : ∃ j, k = n + j := ⟨k - n, by omega⟩
        have hj : j < m := by omega
        obtain ⟨g2, off2, rfl, hc2⟩ := T4.out (by omega)
        have x2 : w4.cell? ⟨g2, off2 + j, none⟩ = some (.int .u8 (f (n + j))) := hc2 j hj
        clear hc2
        go_wp2
        go_round
        case rel => exact ⟨n + j + 1, by omega, by go_num⟩
        case measure => simp [intOf]; omega
    · go_wp2
      go_ret
      exact ⟨rfl, below_drewN B4 q5⟩

set_option maxHeartbeats 1600000 in
/-- The first read fits, the second is short. -/
theorem lawB_half (a0 : Option Addr) (L c : Nat) (f : Nat → Int) (sh : Bool) (n m q : Nat) (w : World) (hl : L ≤ 1048576) (hq : n + q = L) (hm : q < m) (hM : n + m ≤ 9223372036854775807) (hnil : a0 = none → L = 0 ∧ c = 0) (hrd : Rd w a0 L f) :
    Calls Trym.prog 4 #[.slice a0 L c, .bool sh, .int .i64 n, .int .i64 m] w fun e w' => e = .returned (.bool true) ∧ Below w.heap.size w w' := by
  have hd : decide (L ≤ 1048576) = true := by simp; omega
  have HRD : Hid (Rd w a0 L f) := hrd
  have HNIL : Hid (a0 = none → L = 0 ∧ c = 0) := hnil
  have hne := isNilB
  have HQ : Hid (n + q = L) := hq
  have hql : q ≤ L := by omega
  have hnl : n ≤ L := by omega
  have hlm : L < n + m := by omega
  clear hrd hnil hq
  go_enter Trym.func4, Trym.ntmps4
  go_wp2_with (first | (go_at_call 10; refine (zzBytesB_any _ _ _ _ _ _ _ (by omega)).mono ?_; rintro e w' ⟨rfl, rfl⟩; rw [hd]) | (go_at_call 8; refine (clone_any a0 L c f _ hl HNIL.out HRD.out).mono ?_; rintro e w1 ⟨ao, rfl, hao, hrd1, hb1⟩; have HR1 : Hid (Rd w1 ao L f) := hrd1; clear hao hrd1))
  refine (zzbytes_full ao L n q _ f sh _ hl HQ.out rfl HR1.out).mono ?_
  rintro e w2 ⟨ao2, rfl, hao2, hr2, hr3, hb2⟩
  clear hr2 hr3 HR1
  go_wp2_with fail
  refine (zzbytes_short ao2 q q sh m _ (by omega) (by omega)).mono ?_
  rintro e w3 ⟨rfl, hb3⟩
  go_wp2_with fail
  refine (zzbytes_short ao L L sh _ _ hl (by omega)).mono ?_
  rintro e w4 ⟨rfl, hb4⟩
  have B4 : Below w.heap.size w w4 := ((hb1.trans (hb2.mono hb1.size)).trans (hb3.mono (Nat.le_trans hb1.size hb2.size))).trans (hb4.mono (Nat.le_trans hb1.size (Nat.le_trans hb2.size hb3.size)))
  clear hb1 hb2 hb3 hb4
  go_wp2_with (first | (go_at_call 11; refine (eq_any none none 0 0 0 (fun _ => 0) _ (by omega) (fun h => absurd h (by omega)) (fun h => absurd h (by omega))).mono ?_; rintro e w5 ⟨rfl, q5, rfl⟩))
  go_ret
  exact ⟨rfl, below_drewN B4 q5⟩

set_option maxHeartbeats 1600000 in
/-- The first read is short, the second reads nothing. -/
theorem lawB_zero (a0 : Option Addr) (L c : Nat) (f : Nat → Int) (sh : Bool) (n : Nat) (w : World) (hl : L ≤ 1048576) (hn : L < n) (hM : n ≤ 9223372036854775807) (hnil : a0 = none → L = 0 ∧ c = 0) (hrd : Rd w a0 L f) :
    Calls Trym.prog 4 #[.slice a0 L c, .bool sh, .int .i64 n, .int .i64 0] w fun e w' => e = .returned (.bool true) ∧ Below w.heap.size w w' := by
  have hd : decide (L ≤ 1048576) = true := by simp; omega
  have HRD : Hid (Rd w a0 L f) := hrd
  have HNIL : Hid (a0 = none → L = 0 ∧ c = 0) := hnil
  have hne := isNilB
  clear hrd hnil
  go_enter Trym.func4, Trym.ntmps4
  go_wp2_with (first | (go_at_call 10; refine (zzBytesB_any _ _ _ _ _ _ _ (by omega)).mono ?_; rintro e w' ⟨rfl, rfl⟩; rw [hd]) | (go_at_call 8; refine (clone_any a0 L c f _ hl HNIL.out HRD.out).mono ?_; rintro e w1 ⟨ao, rfl, hao, hrd1, hb1⟩; have HR1 : Hid (Rd w1 ao L f) := hrd1; clear hao hrd1))
  refine (zzbytes_short ao L L sh n _ hl (by omega)).mono ?_
  rintro e w2 ⟨rfl, hb2⟩
  go_wp2_with fail
  refine (zzbytes_full none 0 0 0 _ (fun _ => 0) true _ (by omega) rfl rfl (fun h => absurd h (by omega))).mono ?_
  rintro e w3 ⟨ao3, rfl, hao3, hr2, hr3, hb3⟩
  obtain rfl : ao3 = none := by simpa using hao3
  clear hr2 hr3 hao3
  go_wp2_with fail
  refine (zzbytes_short ao L L sh _ _ hl (by omega)).mono ?_
  rintro e w4 ⟨rfl, hb4⟩
  have B4 : Below w.heap.size w w4 := ((hb1.trans (hb2.mono hb1.size)).trans (hb3.mono (Nat.le_trans hb1.size hb2.size))).trans (hb4.mono (Nat.le_trans hb1.size (Nat.le_trans hb2.size hb3.size)))
  clear hb1 hb2 hb3 hb4
  go_wp2_with (first | (go_at_call 11; refine (eq_any none none 0 0 0 (fun _ => 0) _ (by omega) (fun h => absurd h (by omega)) (fun h => absurd h (by omega))).mono ?_; rintro e w5 ⟨rfl, q5, rfl⟩))
  go_ret
  exact ⟨rfl, below_drewN B4 q5⟩

set_option maxHeartbeats 1600000 in
/-- Both reads are short. -/
theorem lawB_none (a0 : Option Addr) (L c : Nat) (f : Nat → Int) (sh : Bool) (n m : Nat) (w : World) (hl : L ≤ 1048576) (hn : L < n) (hm : 0 < m) (hM : n + m ≤ 9223372036854775807) (hnil : a0 = none → L = 0 ∧ c = 0) (hrd : Rd w a0 L f) :
    Calls Trym.prog 4 #[.slice a0 L c, .bool sh, .int .i64 n, .int .i64 m] w fun e w' => e = .returned (.bool true) ∧ Below w.heap.size w w' := by
  have hd : decide (L ≤ 1048576) = true := by simp; omega
  have HRD : Hid (Rd w a0 L f) := hrd
  have HNIL : Hid (a0 = none → L = 0 ∧ c = 0) := hnil
  have hne := isNilB
  clear hrd hnil
  go_enter Trym.func4, Trym.ntmps4
  go_wp2_with (first | (go_at_call 10; refine (zzBytesB_any _ _ _ _ _ _ _ (by omega)).mono ?_; rintro e w' ⟨rfl, rfl⟩; rw [hd]) | (go_at_call 8; refine (clone_any a0 L c f _ hl HNIL.out HRD.out).mono ?_; rintro e w1 ⟨ao, rfl, hao, hrd1, hb1⟩; have HR1 : Hid (Rd w1 ao L f) := hrd1; clear hao hrd1))
  refine (zzbytes_short ao L L sh n _ hl (by omega)).mono ?_
  rintro e w2 ⟨rfl, hb2⟩
  go_wp2_with fail
  refine (zzbytes_short none 0 0 true m _ (by omega) (by omega)).mono ?_
  rintro e w3 ⟨rfl, hb3⟩
  go_wp2_with fail
  refine (zzbytes_short ao L L sh _ _ hl (by omega)).mono ?_
  rintro e w4 ⟨rfl, hb4⟩
  have B4 : Below w.heap.size w w4 := ((hb1.trans (hb2.mono hb1.size)).trans (hb3.mono (Nat.le_trans hb1.size hb2.size))).trans (hb4.mono (Nat.le_trans hb1.size (Nat.le_trans hb2.size hb3.size)))
  clear hb1 hb2 hb3 hb4
  go_wp2_with (first | (go_at_call 11; refine (eq_any none none 0 0 0 (fun _ => 0) _ (by omega) (fun h => absurd h (by omega)) (fun h => absurd h (by omega))).mono ?_; rintro e w5 ⟨rfl, q5, rfl⟩))
  go_ret
  exact ⟨rfl, below_drewN B4 q5⟩

theorem lawB_any (a0 : Option Addr) (L c : Nat) (f : Nat → Int) (sh : Bool) (n m : Int) (w : World) (hL : L ≤ 9223372036854775807) (hm : m ≤ 9223372036854775807) (hnil : a0 = none → L = 0 ∧ c = 0) (hrd : Rd w a0 L f) :
    Calls Trym.prog 4 #[.slice a0 L c, .bool sh, .int .i64 n, .int .i64 m] w fun e w' => e = .returned (.bool true) ∧ Below w.heap.size w w' := by
  by_cases hl : L ≤ 1048576
  · by_cases h : n < 0 ∨ (0 ≤ n ∧ m < 0) ∨ (0 ≤ n ∧ 0 ≤ m ∧ 9223372036854775807 - m < n)
    · exact lawB_out a0 L c sh n m w hl hm h
    · obtain ⟨n', rfl⟩ : ∃ n' : Nat, n = (n' : Int) := ⟨n.toNat, by omega⟩
      obtain ⟨m', rfl⟩ : ∃ m' : Nat, m = (m' : Int) := ⟨m.toNat, by omega⟩
      by_cases h1 : n' + m' ≤ L
      · exact lawB_fits a0 L c f sh n' m' (L - n') (L - n' - m') w hl (by omega) (by omega) hnil hrd
      · by_cases h2 : n' ≤ L
        · exact lawB_half a0 L c f sh n' m' (L - n') w hl (by omega) (by omega) (by omega) hnil hrd
        · by_cases h3 : m' = 0
          · subst h3
            exact lawB_zero a0 L c f sh n' w hl (by omega) (by omega) hnil hrd
          · exact lawB_none a0 L c f sh n' m' w hl (by omega) (by omega) (by omega) hnil hrd
  · exact lawB_long a0 L c sh n m w hL (by omega)

end Go.Proofs.Qxb6602456aMods.Own
