/-
  THE WALK OF FnUtf8LenBoundedAndSelfContained.
-/
import Derived.Test.Qxb6600442aModsUlen
import Derived.Test.Qxb6600442aModsKit
import Derived.WalkKit
import Derived.WalkSpells
set_option linter.unusedVariables false
namespace Go.Proofs.Qxb6600442aMods.Own
open Go Go.RowKit Go.Proofs.Qxb6600442aMods.Plain

theorem info5 : (Trym.prog.info? 5).map (fun i => (i.zero, i.size, i.bytes)) = some (some (.int .u8 0), 1, 1) := by kernel_rfl
theorem size5 : (Trym.prog.info? 5).map (·.size) = some 1 := by kernel_rfl

/-- The bound on the length is met or not: nothing turns. -/
theorem zzBytes1_any (a : Option Addr) (n c : Nat) (w : World) (hn : n ≤ 9223372036854775807) :
    Calls Trym.prog 7 #[.slice a n c] w fun e w' => e = .returned (.bool (decide (n ≤ 1048576))) ∧ w = w' := by
  by_cases h : n ≤ 1048576
  · go_enter Trym.func7, Trym.ntmps7
    go_wp2
    go_ret
    exact ⟨by simp [h], rfl⟩
  · go_enter Trym.func7, Trym.ntmps7
    go_wp2
    go_ret
    exact ⟨by simp [h], rfl⟩

theorem law1_long (a0 : Option Addr) (n c : Nat) (w : World) (hn : n ≤ 9223372036854775807) (hl : 1048576 < n) :
    Calls Trym.prog 3 #[.slice a0 n c] w fun e w' => e = .returned (.bool true) ∧ Below w.heap.size w w' := by
  have hd : decide (n ≤ 1048576) = false := by simp; omega
  go_enter Trym.func3, Trym.ntmps3
  go_wp2_with (go_at_call 7; refine (zzBytes1_any _ _ _ _ hn).mono ?_; rintro e w' ⟨rfl, rfl⟩; rw [hd])
  go_ret
  exact ⟨rfl, Below.refl _ _⟩

theorem law1_empty (a0 : Option Addr) (c : Nat) (w : World) :
    Calls Trym.prog 3 #[.slice a0 0 c] w fun e w' => e = .returned (.bool true) ∧ Below w.heap.size w w' := by
  go_enter Trym.func3, Trym.ntmps3
  go_wp2_with (go_at_call 7; refine (zzBytes1_any _ _ _ _ (by omega)).mono ?_; rintro e w' ⟨rfl, rfl⟩)
  go_ret
  exact ⟨rfl, Below.refl _ _⟩

set_option maxHeartbeats 400000 in
theorem law1_full (b off n c : Nat) (f : Nat → Int) (w : World) (h1 : 1 ≤ n) (hl : n ≤ 1048576) (hrd : Rd w (some ⟨b, off, none⟩) n f) :
    Calls Trym.prog 3 #[.slice (some ⟨b, off, none⟩) n c] w fun e w' => e = .returned (.bool true) ∧ Below w.heap.size w w' := by
  have hd : decide (n ≤ 1048576) = true := by simp; omega
  have hne := fun wx => run_neq_slice_nil_any (P := Trym.prog) wx 22 5 (some ⟨b, off, none⟩) n c 0 0 Trym.underlying22
  obtain ⟨r, hr⟩ : ∃ r, r = ulen f n := ⟨_, rfl⟩
  have hbd := ulen_bd f n h1
  have hself := ulen_self f n h1
  rw [← hr] at hbd hself
  obtain ⟨hb1, hb2, hb3⟩ := hbd
  have HS : Hid (ulen f r = r) := hself
  have HR : Hid (r = ulen f n) := hr
  have HRD : Hid (Rd w (some ⟨b, off, none⟩) n f) := hrd
  clear hr hself hrd
  go_enter Trym.func3, Trym.ntmps3
  go_wp2_with (first | (go_at_call 7; refine (zzBytes1_any _ _ _ _ (by omega)).mono ?_; rintro e w' ⟨rfl, rfl⟩; rw [hd]) | (at_make; refine wpList_make_new _ rfl _ _ 22 rfl 5 (.int .u8 0) 1 Trym.underlying22 info5 rfl .i64 .i64 n rfl rfl (by omega) (by omega) ?_; intro w1 G1 B1 hsz1) | (with_reducible refine at_built .copy ?_; refine wpList_copy_all rfl (.tmp 19) (.tmp 20) 22 22 rfl 5 Trym.underlying22 size5 w.heap.size n n c _ rfl rfl (.int .u8 0) 5 G1 f (HRD.out.later B1) w.heap.size w B1 (Nat.le_refl _) ?_; intro w2 G2 B2))
  refine (zzutf8Len_any _ 0 n n f _ h1 (Nat.le_refl _) (by omega) (fun j hj => block_cell G2.out j hj)).mono ?_
  rintro e w' ⟨rfl, rfl⟩
  rw [← HR.out]
  go_wp2_with fail
  refine (zzutf8Len_any _ 0 r n f _ hb1 hb3 (by omega) (fun j hj => block_cell G2.out j (by omega))).mono ?_
  rintro e w' ⟨rfl, rfl⟩
  rw [HS.out]
  go_wp2
  go_ret
  exact ⟨by simp, B2⟩

theorem law1_any (a0 : Option Addr) (n c : Nat) (f : Nat → Int) (w : World) (hn : n ≤ 9223372036854775807) (hrd : Rd w a0 n f) :
    Calls Trym.prog 3 #[.slice a0 n c] w fun e w' => e = .returned (.bool true) ∧ Below w.heap.size w w' := by
  by_cases hl : n ≤ 1048576
  · by_cases h0 : n = 0
    · subst h0; exact law1_empty a0 c w
    · obtain ⟨b, off, rfl, hc⟩ := hrd (by omega)
      exact law1_full b off n c f w (by omega) hl (fun _ => ⟨b, off, rfl, hc⟩)
  · exact law1_long a0 n c w hn (by omega)

end Go.Proofs.Qxb6600442aMods.Own
