/-
  THE WALKS OF cloneStringsB1 AND OF THE BOUND ON THE LAST LAW's ARGUMENTS.
-/
import Derived.Test.Qxb6602456aModsField
set_option linter.unusedVariables false
namespace Go.Proofs.Qxb6602456aMods.Own
open Go Go.RowKit

/-- n strings are read at 'ao': the j-th is ss j. -/
def RdS (w : World) (ao : Option Addr) (n : Nat) (ss : Nat → ByteArray) : Prop :=
  0 < n → ∃ g off, ao = some ⟨g, off, none⟩ ∧ ∀ j, j < n → w.cell? ⟨g, off + j, none⟩ = some (.string (ss j))

theorem RdS.later {w w' : World} {ao : Option Addr} {n : Nat} {ss : Nat → ByteArray} (h : RdS w ao n ss) (hb : Below w.heap.size w w') : RdS w' ao n ss := by
  intro hn
  obtain ⟨g, off, rfl, hc⟩ := h hn
  exact ⟨g, off, rfl, fun j hj => cell_later hb (hc j hj)⟩

theorem i9 : (Trym.prog.info? 9).map (fun i => (i.zero, i.size, i.bytes)) = some (some (.string ByteArray.empty), 1, 16) := by kernel_rfl

/-- The first k strings, empty ones behind them. -/
def scells (n : Nat) (ss : Nat → ByteArray) : List Value := (List.range n).map fun j => .string (ss j)
theorem scells_length (n : Nat) (ss : Nat → ByteArray) : (scells n ss).length = n := by simp [scells]
theorem scells_at {n : Nat} {ss : Nat → ByteArray} {j : Nat} (h : j < n) : (scells n ss)[j]? = some (.string (ss j)) := by simp [scells, h]
def fillS (ss : Nat → ByteArray) (k : Nat) : Nat → ByteArray := fun j => if j < k then ss j else ByteArray.empty
theorem fillS_zero (n : Nat) (ss : Nat → ByteArray) : List.replicate n (Value.string ByteArray.empty) = scells n (fillS ss 0) := by
  apply List.ext_getElem?
  intro j
  by_cases h : j < n
  · rw [scells_at h]; simp [h, fillS]
  · rw [List.getElem?_eq_none (by simp; omega), List.getElem?_eq_none (by rw [scells_length]; omega)]
theorem fillS_set (n : Nat) (ss : Nat → ByteArray) (k : Nat) (h : k < n) : (scells n (fillS ss k)).set k (.string (ss k)) = scells n (fillS ss (k + 1)) := by
  apply List.ext_getElem?
  intro j
  by_cases hj : j < n
  · rw [scells_at hj, List.getElem?_set, scells_at hj, scells_length]
    by_cases e : k = j
    · subst e; simp [h, fillS]
    · rw [if_neg e]
      unfold fillS
      by_cases h1 : j < k
      · rw [if_pos h1, if_pos (by omega)]
      · rw [if_neg h1, if_neg (by omega)]
  · rw [List.getElem?_eq_none (by rw [List.length_set, scells_length]; omega), List.getElem?_eq_none (by rw [scells_length]; omega)]

set_option maxHeartbeats 800000 in
/-- cloneStringsB1: a copy of its own; nil stays nil. -/
theorem cloneS_any (a0 : Option Addr) (n c : Nat) (ss : Nat → ByteArray) (w : World) (hn : n ≤ 1048576) (hnil : a0 = none → n = 0 ∧ c = 0) (hrd : RdS w a0 n ss) :
    Calls Trym.prog 15 #[.slice a0 n c] w fun e w' => ∃ ao, e = .returned (.slice ao n n) ∧ RdS w' ao n ss ∧ Below w.heap.size w w' := by
  cases a0 with
  | none =>
    obtain ⟨rfl, rfl⟩ := hnil rfl
    have hne := fun wx => Lib.run_eql_slice_nil (P := Trym.prog) wx 32 9 none 0 0 0 0 Trym.underlying32
    go_enter Trym.func15, Trym.ntmps15
    go_wp2
    go_ret
    exact ⟨none, rfl, hrd, Below.refl _ _⟩
  | some x =>
    have hne := fun wx => Lib.run_eql_slice_nil (P := Trym.prog) wx 32 9 (some x) n c 0 0 Trym.underlying32
    have HRD : Hid (RdS w (some x) n ss) := hrd
    clear hrd hnil
    go_enter Trym.func15, Trym.ntmps15
    obtain ⟨i0, hi, hz0, hz1, hz2⟩ := info_parts i9
    go_wp2_with (first | (at_make; refine wpList_make_full _ rfl _ _ 32 rfl w.heap.size 9 i0 (.string ByteArray.empty) 1 Trym.underlying32 hi hz0 hz1 .i64 .i64 _ _ n rfl rfl rfl rfl (by rw [hz2]; omega) (by unfold maxLen; omega) (Nat.le_refl _) ?_; intro w1 hown1 hgrow1; have hb1 : Below w.heap.size w w1 := (Below.refl _ _).grown hgrow1 (Nat.le_refl _) (fun k h => by cases h)))
    have e0 : (madeCells (Value.string ByteArray.empty).cells (n * 1)).toList = scells n (fillS ss 0) := by
      rw [← fillS_zero, Nat.mul_one]
      exact toList_madeCells_one _ n
    rw [e0] at hown1
    go_loopw [4] (fun i wr => ∃ k : Nat, k ≤ n ∧ i = .int .i64 k ∧ Hid (wr.ownsRow w.heap.size 9 1 (.slice (some ⟨w.heap.size, 0, none⟩) n n) n (scells n (fillS ss k))) ∧ Below w.heap.size w wr) (fun i _ => n - (intOf i).toNat)
    case atStart => exact ⟨0, Nat.zero_le _, rfl, hown1, hb1⟩
    case round =>
      obtain ⟨k, hk, rfl, hown, hbel⟩ := hrel
      by_cases hlt : k < n
      · obtain ⟨g, off, e, hc⟩ := HRD.out (by omega)
        cases e
        have x1 : wr.cell? ⟨g, off + k, none⟩ = some (.string (ss k)) := cell_later hbel (hc k hlt)
        have x2 : wr.cell? ⟨w.heap.size, k, none⟩ = some (.string (fillS ss k k)) := by rw [hown.out.cellAt k (by omega), scells_at hlt]
        have x3 : wr.frozen? ⟨w.heap.size, k, none⟩ = false := hown.out.frozenAt k
        have hst := (hown.out.stored k (.string (ss k))).1
        rw [fillS_set n ss k hlt] at hst
        have HST : Hid ((wr.setCell ⟨w.heap.size, k, none⟩ (.string (ss k))).ownsRow w.heap.size 9 1 (.slice (some ⟨w.heap.size, 0, none⟩) n n) n (scells n (fillS ss (k + 1)))) := hst
        clear hst hc
        go_wp2
        go_roundw
        case rel => exact ⟨k + 1, by omega, by go_num, HST, hbel.setCell (Nat.le_refl _) _⟩
        case measure => simp [intOf]; omega
      · obtain rfl : k = n := by omega
        go_wp2
        go_ret
        refine ⟨some ⟨w.heap.size, 0, none⟩, rfl, fun _ => ⟨_, _, rfl, fun j hj => ?_⟩, hbel⟩
        rw [Nat.zero_add, hown.out.cellAt j (by omega), scells_at hj]
        simp [fillS, hj]

/-- It returned some bool. -/
def SomeBool (e : Ending) : Prop := ∃ y, e = .returned (.bool y)

set_option maxHeartbeats 800000 in
/-- The bound on the arguments' lengths: it is met or not: nothing turns. -/
theorem zzBytesD_any (a b : Option Addr) (n c T d : Nat) (ss : Nat → ByteArray) (w : World) (hn : n ≤ 9223372036854775807) (hT : T ≤ 9223372036854775807) (hsz : ∀ j, j < n → (ss j).size ≤ 9223372036854775807) (hrd : RdS w a n ss) :
    Calls Trym.prog 14 #[.slice a n c, .slice b T d] w fun e w' => SomeBool e ∧ w = w' := by
  have HRD : Hid (RdS w a n ss) := hrd
  have HSZ : Hid (∀ j, j < n → (ss j).size ≤ 9223372036854775807) := hsz
  clear hrd hsz
  by_cases h1 : n ≤ 1048576
  · go_enter Trym.func14, Trym.ntmps14
    go_wp2
    go_loop [5, 6] (fun z i => ∃ k q : Nat, k ≤ n ∧ q ≤ 1048576 ∧ z = .int .i64 q ∧ i = .int .i64 k) (fun _ i => n - (intOf i).toNat)
    case atStart => exact ⟨0, n, Nat.zero_le _, h1, rfl, rfl⟩
    case round =>
      obtain ⟨k, q, hk, hq, rfl, rfl⟩ := hrel
      by_cases hlt : k < n
      · obtain ⟨g, off, rfl, hc⟩ := HRD.out (by omega)
        have x1 := hc k hlt
        have x2 := HSZ.out k hlt
        obtain ⟨s, hs⟩ : ∃ s, s = ss k := ⟨_, rfl⟩
        rw [← hs] at x1 x2
        clear hc hs
        by_cases h2 : s.size ≤ 1048576
        · by_cases h3 : q + s.size ≤ 1048576
          · go_wp2
            go_round
            case rel => exact ⟨k + 1, q + s.size, by omega, h3, by go_num, by go_num⟩
            case measure => simp [intOf]; omega
          · go_wp2
            go_ret
            exact ⟨⟨_, rfl⟩, rfl⟩
        · go_wp2
          go_ret
          exact ⟨⟨_, rfl⟩, rfl⟩
      · by_cases h2 : T ≤ 1048576
        · by_cases h3 : q + T ≤ 1048576
          · go_wp2
            go_ret
            exact ⟨⟨_, rfl⟩, rfl⟩
          · go_wp2
            go_ret
            exact ⟨⟨_, rfl⟩, rfl⟩
        · go_wp2
          go_ret
          exact ⟨⟨_, rfl⟩, rfl⟩
  · go_enter Trym.func14, Trym.ntmps14
    go_wp2
    go_ret
    exact ⟨⟨_, rfl⟩, rfl⟩

end Go.Proofs.Qxb6602456aMods.Own
