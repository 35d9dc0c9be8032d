/-
  THE WALK OF FnFieldTextReadsBackWhatWasWritten.
-/
import Derived.Test.Qxb6602456aModsLawC
import Derived.Test.Qxb6602456aModsStrs
import Derived.Test.Qxb6602456aModsEncS
set_option linter.unusedVariables false
namespace Go.Proofs.Qxb6602456aMods.Own
open Go Go.RowKit

set_option maxHeartbeats 4000000 in
theorem lawD_in (a0 : Option Addr) (n c : Nat) (ss : Nat → ByteArray) (b0 : Option Addr) (T d : Nat) (f : Nat → Int) (w : World) (hn : n ≤ 65536) (hT : T ≤ 1048576)
    (hsz : ∀ j, j < n → (ss j).size ≤ 9223372036854775807) (hf : ∀ j, j < T → 0 ≤ f j ∧ f j ≤ 255)
    (hnilA : a0 = none → n = 0 ∧ c = 0) (hrdA : RdS w a0 n ss) (hnilB : b0 = none → T = 0 ∧ d = 0) (hrdB : Rd w b0 T f) :
    Calls Trym.prog 6 #[.slice a0 n c, .slice b0 T d] w fun e w' => e = .returned (.bool true) ∧ Below w.heap.size w w' := by
  have HSZ : Hid (∀ j, j < n → (ss j).size ≤ 9223372036854775807) := hsz
  have HF : Hid (∀ j, j < T → 0 ≤ f j ∧ f j ≤ 255) := hf
  have HNA : Hid (a0 = none → n = 0 ∧ c = 0) := hnilA
  have HRA : Hid (RdS w a0 n ss) := hrdA
  have HNB : Hid (b0 = none → T = 0 ∧ d = 0) := hnilB
  have HRB : Hid (Rd w b0 T f) := hrdB
  clear hsz hf hnilA hrdA hnilB hrdB
  go_enter Trym.func6, Trym.ntmps6
  go_wp2_with fail
  refine (zzBytesD_any a0 b0 n c T d ss w (by omega) (by omega) HSZ.out HRA.out).mono ?_
  rintro e w' ⟨⟨y, rfl⟩, rfl⟩
  cases y with
  | false =>
    go_wp2
    go_ret
    exact ⟨rfl, Below.refl _ _⟩
  | true =>
    go_wp2
    go_loop [5, 6] (fun t i => ∃ k q : Nat, k ≤ n ∧ q ≤ 1048576 ∧ Hid (q = tot T ss k) ∧ t = .int .i64 q ∧ i = .int .i64 k ∧ Hid (∀ j, j < k → (ss j).size ≤ 255)) (fun _ i => n - (intOf i).toNat)
    case atStart => exact ⟨0, T, Nat.zero_le _, hT, rfl, rfl, rfl, fun j hj => absurd hj (by omega)⟩
    case round =>
      obtain ⟨k, q, hk, hq, HQ, rfl, rfl, HS⟩ := hrel
      by_cases hlt : k < n
      · obtain ⟨g, off, rfl, hc⟩ := HRA.out (by omega)
        have x1 := hc k hlt
        have x2 := HSZ.out k hlt
        clear hc
        obtain ⟨s, hs⟩ : ∃ s, s = ss k := ⟨_, rfl⟩
        have HE : Hid (s = ss k) := hs
        rw [← hs] at x1 x2
        clear hs
        by_cases h2 : s.size ≤ 255
        · by_cases h3 : q + (17 + s.size) ≤ 1048576
          · go_wp2
            go_round
            case rel =>
              refine ⟨k + 1, q + (17 + s.size), by omega, h3, ?_, by go_num, by go_num, fun j hj => ?_⟩
              · show q + (17 + s.size) = tot T ss k + (17 + (ss k).size)
                rw [HQ.out, HE.out]
              · by_cases e : j = k
                · subst e; rw [← HE.out]; exact h2
                · exact HS.out j (by omega)
            case measure => simp [intOf]; omega
          · go_wp2
            go_ret
            exact ⟨rfl, Below.refl _ _⟩
        · go_wp2
          go_ret
          exact ⟨rfl, Below.refl _ _⟩
      · obtain rfl : n = k := by omega
        obtain ⟨i0, hi, hz0, hz1, hz2⟩ := info_parts i5
        have htot := encS_tot T ss n
        rw [← HQ.out] at htot
        go_wp2_with (first | (go_at_call 15; refine (cloneS_any a0 n c ss w (by omega) HNA.out HRA.out).mono ?_; rintro e w1 ⟨ao, rfl, hra, hb1⟩; have RA1 : Hid (RdS w1 ao n ss) := hra; have RB1 : Hid (Rd w1 b0 T f) := HRB.out.later hb1; clear hra) | (go_at_call 8; refine (clone_any b0 T d f w1 hT HNB.out RB1.out).mono ?_; rintro e w2 ⟨bo, rfl, hbo, hrb, hb2⟩; have RB2 : Hid (Rd w2 bo T f) := hrb; have RA2 : Hid (RdS w2 ao n ss) := RA1.out.later hb2; clear hrb hbo) | (at_make; refine wpList_make_own _ rfl _ _ 22 rfl w2.heap.size 5 i0 (.int .u8 0) 1 Trym.underlying22 hi hz0 hz1 .i64 .i64 _ q rfl rfl (by omega) (by rw [hz2]; omega) (by unfold maxLen; omega) (Nat.le_refl _) ?_; intro w3 hown3 hgrow3; have hb3 : Below w2.heap.size w2 w3 := (Below.refl _ _).grown hgrow3 (Nat.le_refl _) (fun k h => by cases h)))
        have hstart : Hid (w3.ownsRow w2.heap.size 5 1 (.slice (some ⟨w2.heap.size, 0, none⟩) 0 q) (encS ss 0).length (lits8 (encS ss 0))) := hown3
        have hbw : Below w.heap.size w w2 := hb1.trans (hb2.mono hb1.size)
        clear RA1 RB1 HRA HRB HNA HNB hgrow3 hown3
        go_loopw [7, 8] (fun v i wr => ∃ k : Nat, k ≤ n ∧ i = .int .i64 k ∧ Hid (wr.ownsRow w2.heap.size 5 1 v (encS ss k).length (lits8 (encS ss k))) ∧ Below w2.heap.size w2 wr) (fun _ i _ => n - (intOf i).toNat)
        case atStart => exact ⟨0, Nat.zero_le _, rfl, hstart, hb3⟩
        case round =>
          obtain ⟨k, hk, rfl, hown, hbel⟩ := hrel
          have hsz := hbel.size
          have hle := encS_tot T ss k
          by_cases hlt : k < n
          · obtain ⟨g, off, rfl, hc⟩ := RA2.out (by omega)
            have x1 : wr.cell? ⟨g, off + k, none⟩ = some (.string (ss k)) := cell_later hbel (hc k hlt)
            have x2 := HS.out k hlt
            clear hc
            have hle := encS_le ss n k hlt
            go_wp2_with (first | ((with_reducible refine at_built .append ?_); refine wpList_push rfl (.tmp 68) (.tmp 72) 22 rfl Trym.underlying22 i5 w2.heap.size _ (encS ss k) ((ss k).size : Int) rfl hown rfl (by omega) w2 hbel hsz ?_; intro v4 w4 G4 B4; rw [mid_zero] at G4))
            go_loopw [7, 10] (fun v i wr => ∃ j : Nat, j ≤ (ss k).size ∧ i = .int .i64 j ∧ Hid (wr.ownsRow w2.heap.size 5 1 v (mid (encS ss k) (ss k) j).length (lits8 (mid (encS ss k) (ss k) j))) ∧ Below w2.heap.size w2 wr) (fun _ i _ => (ss k).size - (intOf i).toNat)
            case atStart => exact ⟨0, Nat.zero_le _, rfl, G4, B4⟩
            case round =>
              obtain ⟨j, hj, rfl, hownj, hbelj⟩ := hrel
              have hszj := hbelj.size
              have hml := mid_length (encS ss k) (ss k) j
              have hmb : (mid (encS ss k) (ss k) j).length ≤ 1048576 := by omega
              clear hml
              by_cases hjt : j < (ss k).size
              · have hbt := PlainAid.get_bt (ss k)
                go_wp2_with (first | ((with_reducible refine at_built .append ?_); refine wpList_push rfl (.tmp 80) (.tmp 84) 22 rfl Trym.underlying22 i5 w2.heap.size _ (mid (encS ss k) (ss k) j) (PlainAid.bt (ss k) j) rfl hownj rfl (by omega) w2 hbelj hszj ?_; intro v5 w5 G5 B5; rw [mid_succ] at G5))
                go_roundw
                case rel => exact ⟨j + 1, by omega, by go_num, G5, B5⟩
                case measure => simp [intOf]; omega
              · obtain rfl : (ss k).size = j := by omega
                rw [mid_all] at hownj
                go_wp2
                go_roundw
                case rel => exact ⟨k + 1, by omega, by go_num, hownj, hbelj⟩
                case measure => simp [intOf]; omega
          · obtain rfl : n = k := by omega
            go_wp2
            rw [whole_zero ss n f] at hown
            go_loopw [7, 11] (fun v i wr => ∃ j : Nat, j ≤ T ∧ i = .int .i64 j ∧ Hid (wr.ownsRow w2.heap.size 5 1 v (whole ss n (listOf j f)).length (lits8 (whole ss n (listOf j f)))) ∧ Below w2.heap.size w2 wr) (fun _ i _ => T - (intOf i).toNat)
            case atStart => exact ⟨0, Nat.zero_le _, rfl, hown, hbel⟩
            case round =>
              obtain ⟨j, hj, rfl, hownj, hbelj⟩ := hrel
              have hszj := hbelj.size
              have hwl := whole_length ss n f j
              have hwb : (whole ss n (listOf j f)).length ≤ 1048576 := by omega
              clear hwl
              by_cases hjt : j < T
              · obtain ⟨g, off, rfl, hc⟩ := RB2.out (by omega)
                have x1 := cell_later hbelj (hc j hjt)
                clear hc
                go_wp2_with (first | ((with_reducible refine at_built .append ?_); refine wpList_push rfl (.tmp 92) (.tmp 97) 22 rfl Trym.underlying22 i5 w2.heap.size _ (whole ss n (listOf j f)) (f j) rfl hownj rfl (by omega) w2 hbelj hszj ?_; intro v5 w5 G5 B5; rw [whole_succ] at G5))
                go_roundw
                case rel => exact ⟨j + 1, by omega, by go_num, G5, B5⟩
                case measure => simp [intOf]; omega
              · obtain rfl : T = j := by omega
                obtain ⟨ro, m, cp, rfl, hm, hmc, hcp, hrdm⟩ := own_slice hownj.out
                have RM : Hid (Rd wr ro m (at8 (whole ss n (listOf T f)))) := hrdm
                have HM : Hid (m = (whole ss n (listOf T f)).length) := hm
                have hm2 : m ≤ 1048576 := by omega
                have RA3 : Hid (RdS wr ao n ss) := RA2.out.later hbelj
                have RB3 : Hid (Rd wr bo T f) := RB2.out.later hbelj
                have hbw3 : Below w.heap.size w wr := hbw.trans (hbelj.mono hbw.size)
                clear hrdm hm hownj RA2 RB2 hb1 hb2 hb3
                go_wp2
                rw [← left_zero] at RM
                have hL0 : Hid ((encS ss 0).length + m = (whole ss n (listOf T f)).length) := by show _ = _; rw [HM.out]; simp [encS]
                go_loopw [12, 13, 14] (fun r sh i wx => ∃ (k m cp : Nat) (ro : Option Addr), k ≤ n ∧ i = .int .i64 k ∧ sh = .bool false ∧ r = .slice ro m cp ∧ m ≤ 1048576 ∧ m ≤ cp ∧ cp ≤ 9223372036854775807 ∧ Hid ((encS ss k).length + m = (whole ss n (listOf T f)).length) ∧ Hid (Rd wx ro m (left ss n (listOf T f) k)) ∧ Below wr.heap.size wr wx) (fun _ _ i _ => n - (intOf i).toNat)
                case atStart => exact ⟨0, m, cp, ro, Nat.zero_le _, rfl, rfl, rfl, hm2, hmc, hcp, hL0, RM, Below.refl _ _⟩
                clear RM HM hL0 hmc hcp hm2
                case round =>
                  obtain ⟨k, m, cp, ro, hk, rfl, rfl, rfl, hm2, hmc, hcp, HM, RM, hbx⟩ := hrel
                  by_cases hlt : k < n
                  · have hwl := whole_len ss n k (listOf T f) hlt
                    have hm1 : 1 + (ss k).size ≤ m := by have := HM.out; omega
                    obtain ⟨g, off, rfl, _⟩ := RM.out (by omega)
                    obtain ⟨g2, off2, rfl, hc2⟩ := RA3.out (by omega)
                    have x1 := cell_later hbx (hc2 k hlt)
                    clear hc2 hwl
                    go_wp2_with fail
                    refine (zztext_str g off m cp (ss k).size (m - 1 - (ss k).size) (left ss n (listOf T f) k) false _ (by omega) hm2 hmc hcp (left_head hlt) (fun j _ => whole_bytes ss n T f HS.out HF.out _) RM.out).mono ?_
                    rintro e wy ⟨S, g3, off3, c3, rfl, hS, hSb, hc3, hc4, hr3, hby⟩
                    obtain rfl : S = ss k := str_eq S (ss k) hS (fun j hj => (hSb j hj).trans (left_byte hlt j (by omega)))
                    have x2 := cell_later hby x1
                    have RN : Hid (Rd wy (some ⟨g3, off3, none⟩) (m - 1 - (ss k).size) (left ss n (listOf T f) (k + 1))) := hr3.congr (fun j _ => left_next ss n (listOf T f) k j)
                    have HN : Hid ((encS ss (k + 1)).length + (m - 1 - (ss k).size) = (whole ss n (listOf T f)).length) := by show _ = _; rw [encS_length, ← HM.out]; omega
                    have hbz := hbx.trans (hby.mono hbx.size)
                    clear hS hSb hr3 hby x1 RM
                    go_wp2
                    go_roundw
                    case rel => exact ⟨k + 1, m - 1 - (ss k).size, c3, _, by omega, by go_num, rfl, rfl, by omega, hc3, by omega, HN, RN, hbz⟩
                    case measure => simp [intOf]; omega
                  · obtain rfl : n = k := by omega
                    obtain rfl : m = T := by have h1 := HM.out; have h2 := whole_length ss n f T; omega
                    have RF : Hid (Rd wr ro m f) := RM.out.congr (fun j hj => left_last ss n m f j hj)
                    have RT : Hid (Rd wr bo m f) := RB3.out.later hbx
                    clear RM
                    go_wp2_with (first | (go_at_call 11; refine (eq_any ro bo m cp m f _ (by omega) RF.out RT.out).mono ?_; rintro e wz ⟨rfl, qz, rfl⟩))
                    go_ret
                    exact ⟨rfl, below_drewN (hbw3.trans (hbx.mono hbw3.size)) qz⟩

set_option maxHeartbeats 800000 in
/-- Too many texts, or too long a tail. -/
theorem lawD_out (a0 : Option Addr) (n c : Nat) (ss : Nat → ByteArray) (b0 : Option Addr) (T d : Nat) (w : World) (hn : n ≤ 9223372036854775807) (hT : T ≤ 9223372036854775807) (h : 65536 < n ∨ (n ≤ 65536 ∧ 1048576 < T))
    (hsz : ∀ j, j < n → (ss j).size ≤ 9223372036854775807) (hrdA : RdS w a0 n ss) :
    Calls Trym.prog 6 #[.slice a0 n c, .slice b0 T d] w fun e w' => e = .returned (.bool true) ∧ Below w.heap.size w w' := by
  have HSZ : Hid (∀ j, j < n → (ss j).size ≤ 9223372036854775807) := hsz
  have HRA : Hid (RdS w a0 n ss) := hrdA
  clear hsz hrdA
  rcases h with h | ⟨h, h'⟩
  all_goals
    go_enter Trym.func6, Trym.ntmps6
    go_wp2_with fail
    refine (zzBytesD_any a0 b0 n c T d ss w hn hT HSZ.out HRA.out).mono ?_
    rintro e w' ⟨⟨y, rfl⟩, rfl⟩
    cases y
    all_goals
      go_wp2
      go_ret
      exact ⟨rfl, Below.refl _ _⟩

theorem lawD_any (a0 : Option Addr) (n c : Nat) (ss : Nat → ByteArray) (b0 : Option Addr) (T d : Nat) (f : Nat → Int) (w : World) (hn : n ≤ 9223372036854775807) (hT : T ≤ 9223372036854775807)
    (hsz : ∀ j, j < n → (ss j).size ≤ 9223372036854775807) (hf : ∀ j, j < T → 0 ≤ f j ∧ f j ≤ 255)
    (hnilA : a0 = none → n = 0 ∧ c = 0) (hrdA : RdS w a0 n ss) (hnilB : b0 = none → T = 0 ∧ d = 0) (hrdB : Rd w b0 T f) :
    Calls Trym.prog 6 #[.slice a0 n c, .slice b0 T d] w fun e w' => e = .returned (.bool true) ∧ Below w.heap.size w w' := by
  by_cases h1 : n ≤ 65536
  · by_cases h2 : T ≤ 1048576
    · exact lawD_in a0 n c ss b0 T d f w h1 h2 hsz hf hnilA hrdA hnilB hrdB
    · exact lawD_out a0 n c ss b0 T d w hn hT (.inr ⟨h1, by omega⟩) hsz hrdA
  · exact lawD_out a0 n c ss b0 T d w hn hT (.inl (by omega)) hsz hrdA

end Go.Proofs.Qxb6602456aMods.Own
