/-
  THE WALKS OF ZZFieldBytes (with (*fieldReader).bytes walked in place), eqBytesB1, cloneBytesB1.
-/
import Derived.Test.Qxb6602456aModsProg
import Derived.Test.Qxb6602456aModsKitB
import Derived.Deep.QuietTactic
import Derived.BigQuiet
import Derived.WalkSmall
set_option linter.unusedVariables false
namespace Go.Proofs.Qxb6602456aMods.Own
open Go Go.RowKit

theorem i5 : (Trym.prog.info? 5).map (fun i => (i.zero, i.size, i.bytes)) = some (some (.int .u8 0), 1, 1) := by kernel_rfl

set_option maxHeartbeats 400000 in
theorem zzbytes_short (ao : Option Addr) (L c : Nat) (sh : Bool) (n : Int) (w : World) (hL : L ≤ 1048576) (hn : (L : Int) < n) :
    Calls Trym.prog 9 #[.slice ao L c, .bool sh, .int .i64 n] w fun e w' => e = .returned (.tuple #[.slice none 0 0, .slice none 0 0, .bool true]) ∧ Below w.heap.size w w' := by
  go_enter Trym.func9, Trym.ntmps9
  go_wp2
  go_quiet (fail)
  go_wp2
  go_ret3
  exact ⟨rfl, below_drewN ((Below.refl _ _).alloc (Nat.le_refl _) _) _⟩

set_option maxHeartbeats 400000 in
theorem zzbytes_fits (ao : Option Addr) (L c : Nat) (sh : Bool) (n : Nat) (w : World) (hL : L ≤ 1048576) (hn : n ≤ L) (hc : L ≤ c) (hcm : c ≤ 9223372036854775807) :
    Calls Trym.prog 9 #[.slice ao L c, .bool sh, .int .i64 n] w fun e w' => ∃ ao', e = .returned (.tuple #[.slice ao n c, .slice ao' (L - n) (c - n), .bool sh]) ∧ (ao' = if c = n then ao else ao.map (·.add n)) ∧ Below w.heap.size w w' := by
  by_cases hcn : c = n
  · subst hcn
    obtain rfl : L = c := by omega
    go_enter Trym.func9, Trym.ntmps9
    go_wp2
    go_quiet (fail)
    go_wp2
    go_ret3
    exact ⟨ao, by simp, by simp, below_drewN ((Below.refl _ _).alloc (Nat.le_refl _) _) _⟩
  · go_enter Trym.func9, Trym.ntmps9
    go_wp2
    go_quiet (fail)
    go_wp2
    go_ret3
    refine ⟨_, rfl, ?_, below_drewN ((Below.refl _ _).alloc (Nat.le_refl _) _) _⟩
    simp

/-- A read of n bytes out of L that are there. -/
theorem zzbytes_any (ao : Option Addr) (L c : Nat) (f : Nat → Int) (sh : Bool) (n : Nat) (w : World) (hL : L ≤ 1048576) (hn : n ≤ L) (hc : L ≤ c) (hcm : c ≤ 9223372036854775807) (hrd : Rd w ao L f) :
    Calls Trym.prog 9 #[.slice ao L c, .bool sh, .int .i64 n] w fun e w' => ∃ ao', e = .returned (.tuple #[.slice ao n c, .slice ao' (L - n) (c - n), .bool sh]) ∧ ao'.isNone = ao.isNone ∧ Rd w' ao n f ∧ Rd w' ao' (L - n) (fun j => f (n + j)) ∧ Below w.heap.size w w' := by
  refine (zzbytes_fits ao L c sh n w hL hn hc hcm).mono ?_
  rintro e w' ⟨ao', rfl, rfl, hb⟩
  refine ⟨_, rfl, ?_, ?_, ?_, hb⟩
  · split
    · rfl
    · cases ao <;> rfl
  · intro hp
    obtain ⟨g, off, rfl, hcl⟩ := hrd (by omega)
    exact ⟨g, off, rfl, fun j hj => cell_later hb (hcl j (by omega))⟩
  · intro hp
    obtain ⟨g, off, rfl, hcl⟩ := hrd (by omega)
    rw [if_neg (by omega)]
    refine ⟨g, off + n, by simp [Addr.add_lit], fun j hj => ?_⟩
    rw [Nat.add_assoc]
    exact cell_later hb (hcl (n + j) (by omega))

set_option maxHeartbeats 400000 in
theorem eq_any (a b : Option Addr) (n c d : Nat) (f : Nat → Int) (w : World) (hn : n ≤ 9223372036854775807) (ha : Rd w a n f) (hb : Rd w b n f) :
    Calls Trym.prog 11 #[.slice a n c, .slice b n d] w fun e w' => e = .returned (.bool true) ∧ ∃ q, w' = w.drewN q := by
  have HA : Hid (Rd w a n f) := ha
  have HB : Hid (Rd w b n f) := hb
  clear ha hb
  go_enter Trym.func11, Trym.ntmps11
  go_wp2
  go_loopw [5] (fun i wr => ∃ k q : Nat, k ≤ n ∧ i = .int .i64 k ∧ wr = w.drewN q) (fun i _ => n - (intOf i).toNat)
  case atStart => exact ⟨0, 0, Nat.zero_le _, rfl, rfl⟩
  case round =>
    obtain ⟨k, q, hk, rfl, rfl⟩ := hrel
    by_cases hlt : k < n
    · obtain ⟨g1, o1, rfl, h1⟩ := HA.out (by omega)
      obtain ⟨g2, o2, rfl, h2⟩ := HB.out (by omega)
      have e1 := h1 k hlt
      have e2 := h2 k hlt
      clear h1 h2
      have hi1 : (0 : Int) ≤ (k : Int) := by omega
      have hi2 : (k : Int) < (n : Int) := by omega
      go_wp2
      go_quiet (fail)
      go_wp2
      go_roundw
      case rel => exact ⟨k + 1, _, by omega, by go_num, rfl⟩
      case measure => simp [intOf]; omega
    · go_wp2
      go_ret
      exact ⟨rfl, q, rfl⟩

/-- The first k bytes of f, zeros behind them. -/
def fillF (f : Nat → Int) (k : Nat) : Nat → Int := fun j => if j < k then f j else 0
theorem fill_zero (n : Nat) (f : Nat → Int) : List.replicate n (Value.int .u8 0) = bcells n (fillF f 0) := by
  apply List.ext_getElem?
  intro j
  by_cases h : j < n
  · rw [bcells_at h]; simp [h, fillF]
  · rw [List.getElem?_eq_none (by simp; omega), List.getElem?_eq_none (by rw [bcells_length]; omega)]
theorem fill_set (n : Nat) (f : Nat → Int) (k : Nat) (h : k < n) : (bcells n (fillF f k)).set k (.int .u8 (f k)) = bcells n (fillF f (k + 1)) := by
  apply List.ext_getElem?
  intro j
  by_cases hj : j < n
  · rw [bcells_at hj, List.getElem?_set, bcells_at hj, bcells_length]
    by_cases e : k = j
    · subst e; simp [h, fillF]
    · rw [if_neg e]
      unfold fillF
      by_cases h1 : j < k
      · rw [if_pos h1, if_pos (by omega)]
      · rw [if_neg h1, if_neg (by omega)]
  · rw [List.getElem?_eq_none (by rw [List.length_set, bcells_length]; omega), List.getElem?_eq_none (by rw [bcells_length]; omega)]
theorem bcells_congr {n : Nat} {f g : Nat → Int} (h : ∀ j, j < n → f j = g j) : bcells n f = bcells n g :=
  List.map_congr_left fun j hj => by rw [h j (by simpa using hj)]
theorem fill_all (n : Nat) (f : Nat → Int) : bcells n (fillF f n) = bcells n f := bcells_congr fun j hj => if_pos hj

theorem bcells_list_of {n : Nat} {f : Nat → Int} : lits8 (listOf n f) = bcells n f := by
  rw [← bcells_list, listOf_length]
  exact bcells_congr fun j hj => listOf_at hj

set_option maxHeartbeats 400000 in
/-- cloneBytesB1: a copy of its own; nil stays nil. -/
theorem clone_any (a0 : Option Addr) (n c : Nat) (f : Nat → Int) (w : World) (hn : n ≤ 1048576) (hnil : a0 = none → n = 0 ∧ c = 0) (hrd : Rd w a0 n f) :
    Calls Trym.prog 8 #[.slice a0 n c] w fun e w' => ∃ ao, e = .returned (.slice ao n n) ∧ ao.isNone = a0.isNone ∧ Rd w' ao n f ∧ Below w.heap.size w w' := by
  cases a0 with
  | none =>
    obtain ⟨rfl, rfl⟩ := hnil rfl
    have hne := fun wx => Lib.run_eql_slice_nil (P := Trym.prog) wx 22 5 none 0 0 0 0 Trym.underlying22
    go_enter Trym.func8, Trym.ntmps8
    go_wp2
    go_ret
    exact ⟨none, rfl, rfl, hrd, Below.refl _ _⟩
  | some x =>
    have hne := fun wx => Lib.run_eql_slice_nil (P := Trym.prog) wx 22 5 (some x) n c 0 0 Trym.underlying22
    have HRD : Hid (Rd w (some x) n f) := hrd
    clear hrd hnil
    go_enter Trym.func8, Trym.ntmps8
    obtain ⟨i0, hi, hz0, hz1, hz2⟩ := info_parts i5
    go_wp2_with (first | (at_make; refine wpList_make_full _ rfl _ _ 22 rfl w.heap.size 5 i0 (.int .u8 0) 1 Trym.underlying22 hi hz0 hz1 .i64 .i64 _ _ n rfl rfl rfl rfl (by rw [hz2]; omega) (by unfold maxLen; omega) (Nat.le_refl _) ?_; intro w1 hown1 hgrow1; have hb1 : Below w.heap.size w w1 := (Below.refl _ _).grown hgrow1 (Nat.le_refl _) (fun k h => by cases h)))
    have e0 : (madeCells (Value.int .u8 0).cells (n * 1)).toList = bcells n (fillF f 0) := by
      rw [← fill_zero, Nat.mul_one]
      exact toList_madeCells_one _ n
    rw [e0] at hown1
    go_loopw [4] (fun i wr => ∃ k : Nat, k ≤ n ∧ i = .int .i64 k ∧ Hid (wr.ownsRow w.heap.size 5 1 (.slice (some ⟨w.heap.size, 0, none⟩) n n) n (bcells n (fillF f k))) ∧ Below w.heap.size w wr) (fun i _ => n - (intOf i).toNat)
    case atStart => exact ⟨0, Nat.zero_le _, rfl, hown1, hb1⟩
    case round =>
      obtain ⟨k, hk, rfl, hown, hbel⟩ := hrel
      by_cases hlt : k < n
      · obtain ⟨g, off, e, hc⟩ := HRD.out (by omega)
        cases e
        have x1 : wr.cell? ⟨g, off + k, none⟩ = some (.int .u8 (f k)) := cell_later hbel (hc k hlt)
        have x2 : wr.cell? ⟨w.heap.size, k, none⟩ = some (.int .u8 (fillF f k k)) := by rw [hown.out.cellAt k (by omega), bcells_at hlt]
        have x3 : wr.frozen? ⟨w.heap.size, k, none⟩ = false := hown.out.frozenAt k
        have hst := (hown.out.stored k (.int .u8 (f k))).1
        rw [fill_set n f k hlt] at hst
        have HST : Hid ((wr.setCell ⟨w.heap.size, k, none⟩ (.int .u8 (f k))).ownsRow w.heap.size 5 1 (.slice (some ⟨w.heap.size, 0, none⟩) n n) n (bcells n (fillF f (k + 1)))) := hst
        clear hst hc
        go_wp2
        go_roundw
        case rel => exact ⟨k + 1, by omega, by go_num, HST, hbel.setCell (Nat.le_refl _) _⟩
        case measure => simp [intOf]; omega
      · obtain rfl : k = n := by omega
        go_wp2
        go_ret
        have hfin := hown.out
        rw [fill_all, ← bcells_list_of] at hfin
        exact ⟨some ⟨w.heap.size, 0, none⟩, rfl, rfl, (Rd.of_own hfin).congr (fun j hj => listOf_at hj), hbel⟩

end Go.Proofs.Qxb6602456aMods.Own
