/-
  THE WALK OF FnUtf8LenReadsWholeEncodedRune.
-/
import Derived.Test.Qxb6600442aModsUlen
import Derived.Test.Qxb6600442aModsEnc
import Derived.Test.Qxb6600442aModsKit
import Derived.WalkKit
import Derived.WalkSpells
set_option linter.unusedVariables false
namespace Go.Proofs.Qxb6600442aMods.Own
open Go Go.RowKit Go.Proofs.Qxb6600442aMods.Plain

theorem info5b : (Trym.prog.info? 5).map (fun i => (i.zero, i.size, i.bytes)) = some (some (.int .u8 0), 1, 1) := by kernel_rfl

theorem bcells_join (k n : Nat) (e f : Nat → Int) : bcells k e ++ bcells n f = bcells (k + n) (join k e f) := by
  apply List.ext_getElem?
  intro j
  by_cases h : j < k
  · rw [List.getElem?_append_left (by rw [bcells_length]; exact h), bcells_at h, bcells_at (by omega)]
    unfold join; rw [if_pos h]
  · rw [List.getElem?_append_right (by rw [bcells_length]; omega), bcells_length]
    by_cases h2 : j < k + n
    · rw [bcells_at (by omega), bcells_at h2]
      unfold join; rw [if_neg h]
    · rw [List.getElem?_eq_none (by rw [bcells_length]; omega), List.getElem?_eq_none (by rw [bcells_length]; omega)]

/-- An owned row of bytes, read. -/
theorem own_cells {w : World} {base g m cap : Nat} {F : Nat → Int} (h : w.ownsRow base 5 1 (.slice (some ⟨g, 0, none⟩) m cap) m (bcells m F)) : ∀ j, j < m → w.cell? ⟨g, 0 + j, none⟩ = some (.int .u8 (F j)) := by
  intro j hj
  rw [Nat.zero_add, h.cellAt j (by omega), bcells_at hj]

/-- The array's cells, behind a make. -/
theorem arr_cells {w1 w2 : World} {g : Nat → Int} {k : Nat} (hk : k ≤ 4) (hg : (w1.alloc (.cells #[.int .u8 (g 0), .int .u8 (g 1), .int .u8 (g 2), .int .u8 (g 3)] 26)).grownBy w2 none) :
    ∀ j u, (bcells k g)[j]? = some u → w2.cell? ((⟨w1.heap.size, 0, none⟩ : Addr).add j) = some u := by
  intro j u hu
  obtain ⟨hj, rfl⟩ := bcells_get hu
  refine hg.cell ?_ (by simp)
  rw [Addr.add_lit]
  rcases (show j = 0 ∨ j = 1 ∨ j = 2 ∨ j = 3 by omega) with rfl | rfl | rfl | rfl <;> simp

/-- What came in, still read as the source of an append. -/
theorem src_cells {w : World} {ao : Option Addr} {n : Nat} {f : Nat → Int} (h : Rd w ao n f) : ∀ ad, ao = some ad → ∀ j u, (bcells n f)[j]? = some u → w.cell? (ad.add j) = some u := by
  intro ad had j u hu
  obtain ⟨hj, rfl⟩ := bcells_get hu
  obtain ⟨g, off, rfl, hc⟩ := h (by omega)
  obtain rfl := Option.some.inj had
  rw [Addr.add_lit]
  exact hc j hj

theorem slice_arr (a : Addr) (k : Nat) (hk : k ≤ 4) (wx : World) : (Instr.sliceAt 26 (.pointer (some a)) none (some (.int .i64 (k : Int))) none).run Trym.prog wx = .ok (.slice (some a) k 4) wx := by
  have hl : Trym.prog.arrayLen 26 = 4 := by kernel_rfl
  have he : Trym.prog.elem 26 = 5 := by kernel_rfl
  have hs : (sizeOf 5).run Trym.prog wx = .ok 1 wx := by kernel_rfl
  have hu : Trym.prog.underlying 26 = some (.array (Trym.prog.arrayLen 26) (Trym.prog.elem 26)) := by kernel_rfl
  rw [run_sliceAt_array_h wx 26 a hu .i64 k (by omega) (by rw [hl]; omega), he, hs, hl]
  simp [Result.andThen, slicedAt]
  cases a
  simp [Addr.add]

theorem zzBytes2_any (r : Value) (a : Option Addr) (n c : Nat) (w : World) (hn : n ≤ 9223372036854775807) :
    Calls Trym.prog 9 #[r, .slice a n c] w fun e w' => e = .returned (.bool (decide (n ≤ 1048576))) ∧ w = w' := by
  by_cases h : n ≤ 1048576
  · go_enter Trym.func9, Trym.ntmps9
    go_wp2
    go_ret
    exact ⟨by simp [h], rfl⟩
  · go_enter Trym.func9, Trym.ntmps9
    go_wp2
    go_ret
    exact ⟨by simp [h], rfl⟩

theorem law2_long (r : Int) (a0 : Option Addr) (n c : Nat) (w : World) (hn : n ≤ 9223372036854775807) (hl : 1048576 < n) :
    Calls Trym.prog 4 #[.int .i32 r, .slice a0 n c] w fun e w' => e = .returned (.bool true) ∧ Below w.heap.size w w' := by
  have hd : decide (n ≤ 1048576) = false := by simp; omega
  go_enter Trym.func4, Trym.ntmps4
  go_wp2_with (go_at_call 9; refine (zzBytes2_any _ _ _ _ _ hn).mono ?_; rintro e w' ⟨rfl, rfl⟩; rw [hd])
  go_ret
  exact ⟨rfl, Below.refl _ _⟩

theorem law2_out (r : Int) (a0 : Option Addr) (n c : Nat) (w : World) (hl : n ≤ 1048576) (h : r < 0 ∨ 1114111 < r ∨ (55296 ≤ r ∧ r ≤ 57343)) :
    Calls Trym.prog 4 #[.int .i32 r, .slice a0 n c] w fun e w' => e = .returned (.bool true) ∧ Below w.heap.size w w' := by
  have hd : decide (n ≤ 1048576) = true := by simp; omega
  rcases h with h | h | ⟨h, h'⟩
  all_goals
    go_enter Trym.func4, Trym.ntmps4
    go_wp2_with (go_at_call 9; refine (zzBytes2_any _ _ _ _ _ (by omega)).mono ?_; rintro e w' ⟨rfl, rfl⟩; rw [hd])
    go_ret
    exact ⟨rfl, Below.refl _ _⟩

set_option maxHeartbeats 800000 in
theorem law2_in (r : Int) (a0 : Option Addr) (n c : Nat) (f : Nat → Int) (w : World) (hl : n ≤ 1048576) (h0 : 0 ≤ r) (h1 : r ≤ 1114111) (h2 : r < 55296 ∨ 57343 < r) (hnil : a0 = none → n = 0 ∧ c = 0) (hrd : Rd w a0 n f) :
    Calls Trym.prog 4 #[.int .i32 r, .slice a0 n c] w fun e w' => e = .returned (.bool true) ∧ Below w.heap.size w w' := by
  have hd : decide (n ≤ 1048576) = true := by simp; omega
  have HRD : Hid (Rd w a0 n f) := hrd
  have HNIL : Hid (a0 = none → n = 0 ∧ c = 0) := hnil
  clear hrd hnil
  obtain ⟨i0, hi, hz0, hz1, hz2⟩ := info_parts info5b
  have hsl := slice_arr
  rcases h2 with h2 | h2
  all_goals
    go_enter Trym.func4, Trym.ntmps4
    go_wp2_with (first | (go_at_call 9; refine (zzBytes2_any _ _ _ _ _ (by omega)).mono ?_; rintro e w' ⟨rfl, rfl⟩; rw [hd]) | (go_at_call 10; refine (enc_any r w h0 h1).mono ?_; rintro e w1 ⟨g, k, rfl, henc, hb1⟩; have hk1 := henc.1; have hk2 := henc.2.1; have HE : Hid (Enc g k) := henc; clear henc) | (at_make; refine wpList_make_own _ rfl _ _ 22 rfl w.heap.size 5 i0 (.int .u8 0) 1 Trym.underlying22 hi hz0 hz1 .i64 .i64 _ (k + n) rfl rfl (by omega) (by rw [hz2]; omega) (by unfold maxLen; omega) (by have := hb1.size; simp; omega) ?_; intro w2 hown2 hgrow2; rw [World.size_alloc] at hown2; have hb2 := (hb1.alloc hb1.size (.cells #[.int .u8 (g 0), .int .u8 (g 1), .int .u8 (g 2), .int .u8 (g 3)] 26)).grown hgrow2 (by have := hb1.size; simp; omega) (fun k h => by cases h)) | (at_builtin; refine wpList_append_fits _ rfl (.tmp 39) (.tmp 41) 22 rfl w.heap.size 5 i0 1 Trym.underlying22 hi hz1 (w1.heap.size + 1) 0 (k + n) [] rfl hown2 ⟨w1.heap.size, 0, none⟩ k 4 (bcells k g) rfl (by rw [bcells_length]; omega) (arr_cells hk2 hgrow2) (bcells_one _ _) (by omega) ?_; intro w3 hown3 hgrow3; simp only [Nat.zero_add, List.nil_append] at hown3; have hb3 := hb2.grown hgrow3 (by have := hb2.size; omega) (fun q h => by cases h; have := hb1.size; omega)) | (at_builtin; refine wpList_append_fits_any _ rfl (.tmp 43) (.tmp 44) 22 rfl w.heap.size 5 i0 1 Trym.underlying22 hi hz1 (w1.heap.size + 1) k (k + n) (bcells k g) rfl hown3 a0 n c (bcells n f) rfl (by rw [bcells_length]; omega) HNIL.out (src_cells (HRD.out.later hb3)) (bcells_one _ _) (by omega) ?_; intro w4 hown4 hgrow4; rw [bcells_join] at hown4; have hb4 := hb3.grown hgrow4 (by have := hb3.size; omega) (fun q h => by cases h; have := hb1.size; omega)))
    refine (zzutf8Len_any _ 0 (k + n) (k + n) (join k g f) _ (by omega) (Nat.le_refl _) (by omega) (own_cells hown4)).mono ?_
    rintro e w' ⟨rfl, rfl⟩
    rw [ulen_join g f k n HE.out]
    go_wp2
    go_ret
    exact ⟨by simp, hb4⟩

theorem law2_any (r : Int) (a0 : Option Addr) (n c : Nat) (f : Nat → Int) (w : World) (hn : n ≤ 9223372036854775807) (hnil : a0 = none → n = 0 ∧ c = 0) (hrd : Rd w a0 n f) :
    Calls Trym.prog 4 #[.int .i32 r, .slice a0 n c] w fun e w' => e = .returned (.bool true) ∧ Below w.heap.size w w' := by
  by_cases hl : n ≤ 1048576
  · by_cases h : r < 0 ∨ 1114111 < r ∨ (55296 ≤ r ∧ r ≤ 57343)
    · exact law2_out r a0 n c w hl h
    · exact law2_in r a0 n c f w hl (by omega) (by omega) (by omega) hnil hrd
  · exact law2_long r a0 n c w hn (by omega)

end Go.Proofs.Qxb6600442aMods.Own
