/-
  THE WALKS OF utf8Len AND ITS SHIM.
-/
import Derived.Test.Qxb6600442aModsProg
import Derived.Test.Qxb6600442aModsPlain
import Derived.WalkKit
import Derived.WalkSpells
set_option linter.unusedVariables false
namespace Go.Proofs.Qxb6600442aMods.Own
open Go Go.RowKit Go.Proofs.Qxb6600442aMods.Plain

theorem ret_int {k : IntKind} {a b : Int} (h : a = b) : Ending.returned (.int k a) = .returned (.int k b) := by rw [h]
theorem cont_yes {x : Int} (h : (bits .and .u8 x 192 != 128) = false) : cont x = true := by
  unfold cont; simpa [bne] using h
theorem cont_no {x : Int} (h : (bits .and .u8 x 192 != 128) = true) : cont x = false := by
  unfold cont; simpa [bne] using h

set_option maxHeartbeats 400000 in
theorem utf8Len_4 (b off n c : Nat) (f : Nat → Int) (w : World) (h0a : 240 ≤ f 0) (hn : 1 ≤ n) (hnc : n ≤ c) (hc : c ≤ 9223372036854775807)
    (hcell : ∀ j, j < n → w.cell? ⟨b, off + j, none⟩ = some (.int .u8 (f j))) :
    Calls Trym.prog 18 #[.slice (some ⟨b, off, none⟩) n c] w fun e w' => e = .returned (.int .i64 (ulen f n)) ∧ w = w' := by
  have h0 : w.cell? ⟨b, off, none⟩ = some (.int .u8 (f 0)) := hcell 0 (by omega)
  have HL : Hid (lead (f 0) = 4) := by
    show lead (f 0) = 4
    unfold lead; (repeat' split) <;> omega
  have HC : Hid (∀ j, j < n → w.cell? ⟨b, off + j, none⟩ = some (.int .u8 (f j))) := hcell
  clear hcell
  by_cases hs : n < 4
  · go_enter Trym.func18, Trym.ntmps18
    go_wp2
    go_ret
    exact ⟨ret_int (by rw [ulen_short f n 4 HL.out (by omega)]; rfl), rfl⟩
  · have hs' : 4 ≤ n := by omega
    have hs2 : 4 ≤ c := by omega
    clear hs
    go_enter Trym.func18, Trym.ntmps18
    go_wp2
    go_loop [27] (fun i => ∃ k : Nat, k ≤ 3 ∧ i = .int .i64 k ∧ ∀ j, j < k → cont (f (j + 1)) = true) (fun i => 3 - (intOf i).toNat)
    case atStart => exact ⟨0, by omega, rfl, fun j hj => absurd hj (by omega)⟩
    case round =>
      obtain ⟨k, hk, rfl, hall⟩ := hrel
      have HA : Hid (∀ j, j < k → cont (f (j + 1)) = true) := hall
      clear hall
      by_cases hlt : k < 3
      · have hx : w.cell? ⟨b, off + 1 + k, none⟩ = some (.int .u8 (f (k + 1))) := by
          have := HC.out (k + 1) (by omega)
          rwa [show off + (k + 1) = off + 1 + k by omega] at this
        go_wp2
        · have hb : (bits BinOp.and IntKind.u8 (f (k + 1)) 192 != 128) = true := by assumption
          go_ret
          exact ⟨ret_int (by rw [ulen_stop f n 4 k HL.out (by omega) (cont_no hb)]; rfl), rfl⟩
        · have hb : (bits BinOp.and IntKind.u8 (f (k + 1)) 192 != 128) = false := by assumption
          go_round
          case rel => exact ⟨k + 1, by omega, by go_num, fun j hj => by
            by_cases e : j = k
            · subst e; exact cont_yes hb
            · exact HA.out j (by omega)⟩
          case measure => simp [intOf]; omega
      · go_wp2
        go_ret
        exact ⟨ret_int (by rw [ulen_all f n 4 HL.out (by omega) (fun j hj => HA.out j (by omega))]; rfl), rfl⟩

set_option maxHeartbeats 400000 in
theorem utf8Len_3 (b off n c : Nat) (f : Nat → Int) (w : World) (h0a : f 0 < 240) (h1a : 224 ≤ f 0) (hn : 1 ≤ n) (hnc : n ≤ c) (hc : c ≤ 9223372036854775807)
    (hcell : ∀ j, j < n → w.cell? ⟨b, off + j, none⟩ = some (.int .u8 (f j))) :
    Calls Trym.prog 18 #[.slice (some ⟨b, off, none⟩) n c] w fun e w' => e = .returned (.int .i64 (ulen f n)) ∧ w = w' := by
  have h0 : w.cell? ⟨b, off, none⟩ = some (.int .u8 (f 0)) := hcell 0 (by omega)
  have HL : Hid (lead (f 0) = 3) := by
    show lead (f 0) = 3
    unfold lead; (repeat' split) <;> omega
  have HC : Hid (∀ j, j < n → w.cell? ⟨b, off + j, none⟩ = some (.int .u8 (f j))) := hcell
  clear hcell
  by_cases hs : n < 3
  · go_enter Trym.func18, Trym.ntmps18
    go_wp2
    go_ret
    exact ⟨ret_int (by rw [ulen_short f n 3 HL.out (by omega)]; rfl), rfl⟩
  · have hs' : 3 ≤ n := by omega
    have hs2 : 3 ≤ c := by omega
    clear hs
    go_enter Trym.func18, Trym.ntmps18
    go_wp2
    go_loop [27] (fun i => ∃ k : Nat, k ≤ 2 ∧ i = .int .i64 k ∧ ∀ j, j < k → cont (f (j + 1)) = true) (fun i => 2 - (intOf i).toNat)
    case atStart => exact ⟨0, by omega, rfl, fun j hj => absurd hj (by omega)⟩
    case round =>
      obtain ⟨k, hk, rfl, hall⟩ := hrel
      have HA : Hid (∀ j, j < k → cont (f (j + 1)) = true) := hall
      clear hall
      by_cases hlt : k < 2
      · have hx : w.cell? ⟨b, off + 1 + k, none⟩ = some (.int .u8 (f (k + 1))) := by
          have := HC.out (k + 1) (by omega)
          rwa [show off + (k + 1) = off + 1 + k by omega] at this
        go_wp2
        · have hb : (bits BinOp.and IntKind.u8 (f (k + 1)) 192 != 128) = true := by assumption
          go_ret
          exact ⟨ret_int (by rw [ulen_stop f n 3 k HL.out (by omega) (cont_no hb)]; rfl), rfl⟩
        · have hb : (bits BinOp.and IntKind.u8 (f (k + 1)) 192 != 128) = false := by assumption
          go_round
          case rel => exact ⟨k + 1, by omega, by go_num, fun j hj => by
            by_cases e : j = k
            · subst e; exact cont_yes hb
            · exact HA.out j (by omega)⟩
          case measure => simp [intOf]; omega
      · go_wp2
        go_ret
        exact ⟨ret_int (by rw [ulen_all f n 3 HL.out (by omega) (fun j hj => HA.out j (by omega))]; rfl), rfl⟩

set_option maxHeartbeats 400000 in
theorem utf8Len_2 (b off n c : Nat) (f : Nat → Int) (w : World) (h0a : f 0 < 224) (h1a : 192 ≤ f 0) (hn : 1 ≤ n) (hnc : n ≤ c) (hc : c ≤ 9223372036854775807)
    (hcell : ∀ j, j < n → w.cell? ⟨b, off + j, none⟩ = some (.int .u8 (f j))) :
    Calls Trym.prog 18 #[.slice (some ⟨b, off, none⟩) n c] w fun e w' => e = .returned (.int .i64 (ulen f n)) ∧ w = w' := by
  have h0 : w.cell? ⟨b, off, none⟩ = some (.int .u8 (f 0)) := hcell 0 (by omega)
  have HL : Hid (lead (f 0) = 2) := by
    show lead (f 0) = 2
    unfold lead; (repeat' split) <;> omega
  have HC : Hid (∀ j, j < n → w.cell? ⟨b, off + j, none⟩ = some (.int .u8 (f j))) := hcell
  clear hcell
  by_cases hs : n < 2
  · go_enter Trym.func18, Trym.ntmps18
    go_wp2
    go_ret
    exact ⟨ret_int (by rw [ulen_short f n 2 HL.out (by omega)]; rfl), rfl⟩
  · have hs' : 2 ≤ n := by omega
    have hs2 : 2 ≤ c := by omega
    clear hs
    go_enter Trym.func18, Trym.ntmps18
    go_wp2
    go_loop [27] (fun i => ∃ k : Nat, k ≤ 1 ∧ i = .int .i64 k ∧ ∀ j, j < k → cont (f (j + 1)) = true) (fun i => 1 - (intOf i).toNat)
    case atStart => exact ⟨0, by omega, rfl, fun j hj => absurd hj (by omega)⟩
    case round =>
      obtain ⟨k, hk, rfl, hall⟩ := hrel
      have HA : Hid (∀ j, j < k → cont (f (j + 1)) = true) := hall
      clear hall
      by_cases hlt : k < 1
      · have hx : w.cell? ⟨b, off + 1 + k, none⟩ = some (.int .u8 (f (k + 1))) := by
          have := HC.out (k + 1) (by omega)
          rwa [show off + (k + 1) = off + 1 + k by omega] at this
        go_wp2
        · have hb : (bits BinOp.and IntKind.u8 (f (k + 1)) 192 != 128) = true := by assumption
          go_ret
          exact ⟨ret_int (by rw [ulen_stop f n 2 k HL.out (by omega) (cont_no hb)]; rfl), rfl⟩
        · have hb : (bits BinOp.and IntKind.u8 (f (k + 1)) 192 != 128) = false := by assumption
          go_round
          case rel => exact ⟨k + 1, by omega, by go_num, fun j hj => by
            by_cases e : j = k
            · subst e; exact cont_yes hb
            · exact HA.out j (by omega)⟩
          case measure => simp [intOf]; omega
      · go_wp2
        go_ret
        exact ⟨ret_int (by rw [ulen_all f n 2 HL.out (by omega) (fun j hj => HA.out j (by omega))]; rfl), rfl⟩

set_option maxHeartbeats 400000 in
theorem utf8Len_1 (b off n c : Nat) (f : Nat → Int) (w : World) (h0a : f 0 < 192) (hn : 1 ≤ n) (hnc : n ≤ c) (hc : c ≤ 9223372036854775807)
    (hcell : ∀ j, j < n → w.cell? ⟨b, off + j, none⟩ = some (.int .u8 (f j))) :
    Calls Trym.prog 18 #[.slice (some ⟨b, off, none⟩) n c] w fun e w' => e = .returned (.int .i64 (ulen f n)) ∧ w = w' := by
  have h0 : w.cell? ⟨b, off, none⟩ = some (.int .u8 (f 0)) := hcell 0 (by omega)
  have HL : Hid (lead (f 0) = 1) := by
    show lead (f 0) = 1
    unfold lead; (repeat' split) <;> omega
  have HC : Hid (∀ j, j < n → w.cell? ⟨b, off + j, none⟩ = some (.int .u8 (f j))) := hcell
  clear hcell
  go_enter Trym.func18, Trym.ntmps18
  go_wp2
  all_goals
    refine wp_loop_rounds 1 ?_
    rw [rounds_succ]
    go_wp2
    go_ret
    exact ⟨ret_int (by rw [ulen_all f n 1 HL.out (by omega) (fun j hj => absurd hj (by omega))]; rfl), rfl⟩

theorem utf8Len_any (b off n c : Nat) (f : Nat → Int) (w : World) (hn : 1 ≤ n) (hnc : n ≤ c) (hc : c ≤ 9223372036854775807)
    (hcell : ∀ j, j < n → w.cell? ⟨b, off + j, none⟩ = some (.int .u8 (f j))) :
    Calls Trym.prog 18 #[.slice (some ⟨b, off, none⟩) n c] w fun e w' => e = .returned (.int .i64 (ulen f n)) ∧ w = w' := by
  rcases (show 240 ≤ f 0 ∨ (f 0 < 240 ∧ 224 ≤ f 0) ∨ (f 0 < 224 ∧ 192 ≤ f 0) ∨ f 0 < 192 by omega) with h | ⟨h, h'⟩ | ⟨h, h'⟩ | h
  · exact utf8Len_4 b off n c f w h hn hnc hc hcell
  · exact utf8Len_3 b off n c f w h h' hn hnc hc hcell
  · exact utf8Len_2 b off n c f w h h' hn hnc hc hcell
  · exact utf8Len_1 b off n c f w h hn hnc hc hcell

theorem zzutf8Len_any (b off n c : Nat) (f : Nat → Int) (w : World) (hn : 1 ≤ n) (hnc : n ≤ c) (hc : c ≤ 9223372036854775807)
    (hcell : ∀ j, j < n → w.cell? ⟨b, off + j, none⟩ = some (.int .u8 (f j))) :
    Calls Trym.prog 8 #[.slice (some ⟨b, off, none⟩) n c] w fun e w' => e = .returned (.int .i64 (ulen f n)) ∧ w = w' := by
  go_enter Trym.func8, Trym.ntmps8
  go_wp2_with (go_at_call 18; refine (utf8Len_any b off n c f _ hn hnc hc hcell).mono ?_; rintro e w' ⟨rfl, rfl⟩)
  go_ret
  exact ⟨rfl, rfl⟩

end Go.Proofs.Qxb6600442aMods.Own
