/-
  THE WALK OF FnAppendPGLiteralSplitsAtConcatenation.
-/
import Derived.Test.Qxb6600442aModsLit
import Derived.Test.Qxb6600442aModsEq
import Derived.WalkSmall
set_option linter.unusedVariables false
namespace Go.Proofs.Qxb6600442aMods.Own
open Go Go.RowKit Go.Proofs.Qxb6600442aMods.Plain

theorem bt_left (s t : ByteArray) (j : Nat) (h : j < s.size) : PlainAid.bt (s ++ t) j = PlainAid.bt s j := by
  have h2 : j < (s ++ t).size := by rw [ByteArray.size_append]; omega
  unfold PlainAid.bt
  rw [dif_pos h2, dif_pos h, ByteArray.getElem_append_left h]
theorem bt_right (s t : ByteArray) (j : Nat) (h : j < t.size) : PlainAid.bt (s ++ t) (s.size + j) = PlainAid.bt t j := by
  have h2 : s.size + j < (s ++ t).size := by rw [ByteArray.size_append]; omega
  unfold PlainAid.bt
  rw [dif_pos h2, dif_pos h, ByteArray.getElem_append_right (by omega)]
  simp

theorem bcells_congr {n : Nat} {f g : Nat → Int} (h : ∀ j, j < n → f j = g j) : bcells n f = bcells n g :=
  List.map_congr_left fun j hj => by rw [h j (by simpa using hj)]

/-- A literal without its last byte; a literal without its first two. -/
theorem cells_left (f : Nat → Int) (m p : Nat) (h : p + 1 = (lit [] f m).length) : bcells p (at8 (lit [] f m)) = lits8 (lit0 [] f m) := by
  have hp : p = (lit0 [] f m).length := by simp [lit] at h; omega
  subst hp
  rw [← bcells_list]
  exact bcells_congr fun j hj => at8_left _ _ j hj
theorem lit_tail (f : Nat → Int) (m : Nat) : lit [] f m = [69, 39] ++ (esc f m ++ [39]) := by simp [lit, lit0]
theorem cells_right (f : Nat → Int) (m p : Nat) (h : p + 2 = (lit [] f m).length) : bcells p (fun j => at8 (lit [] f m) (2 + j)) = lits8 (esc f m ++ [39]) := by
  have hp : p = (esc f m ++ [39]).length := by rw [lit_tail] at h; simp at h; simp; omega
  subst hp
  rw [← bcells_list, lit_tail]
  exact bcells_congr fun j hj => at8_right [69, 39] _ j

/-- THE PLAIN LAW: the literal of s+t is b, the literal of s without its closing quote, the literal of t without its opening. -/
theorem split_law (b : List Int) (s t : ByteArray) : lit b (PlainAid.bt (s ++ t)) (s ++ t).size = b ++ lit0 [] (PlainAid.bt s) s.size ++ (esc (PlainAid.bt t) t.size ++ [39]) := by
  rw [ByteArray.size_append]
  unfold lit lit0
  rw [esc_join (PlainAid.bt s) (PlainAid.bt t) (PlainAid.bt (s ++ t)) s.size t.size (bt_left s t) (bt_right s t)]
  simp

theorem want_cells (n : Nat) (f : Nat → Int) (s t : ByteArray) (p2 p3 : Nat) (h2 : p2 + 1 = (lit [] (PlainAid.bt s) s.size).length) (h3 : p3 + 2 = (lit [] (PlainAid.bt t) t.size).length) :
    bcells n f ++ bcells p2 (at8 (lit [] (PlainAid.bt s) s.size)) ++ bcells p3 (fun j => at8 (lit [] (PlainAid.bt t) t.size) (2 + j)) = lits8 (lit (listOf n f) (PlainAid.bt (s ++ t)) (s ++ t).size) := by
  have hb : bcells n f = lits8 (listOf n f) := by
    rw [← bcells_list, listOf_length]
    exact bcells_congr fun j hj => by rw [listOf_at hj]
  rw [split_law, cells_left _ _ _ h2, cells_right _ _ _ h3, hb, ← lits8_append, ← lits8_append]
theorem want_length (n : Nat) (f : Nat → Int) (s t : ByteArray) (p2 p3 : Nat) (h2 : p2 + 1 = (lit [] (PlainAid.bt s) s.size).length) (h3 : p3 + 2 = (lit [] (PlainAid.bt t) t.size).length) :
    n + p2 + p3 = (lit (listOf n f) (PlainAid.bt (s ++ t)) (s ++ t).size).length := by
  have h := congrArg List.length (want_cells n f s t p2 p3 h2 h3)
  rw [lits8_length] at h
  simp only [List.length_append, bcells_length] at h
  exact h
theorem lit_nil_bd (f : Nat → Int) (m : Nat) : 3 ≤ (lit [] f m).length ∧ (lit [] f m).length ≤ 3 + 2 * m := by
  have h1 := lit_length [] f m
  have h2 := esc_length f m
  simp only [List.length_nil] at h1
  omega

/-- The source of an append, at a head that is written out. -/
theorem head_cells {w : World} {g off n : Nat} {f : Nat → Int} (h : Rd w (some ⟨g, off, none⟩) n f) : ∀ j u, (bcells n f)[j]? = some u → w.cell? ((⟨g, off, none⟩ : Addr).add j) = some u := by
  intro j u hu
  obtain ⟨hj, rfl⟩ := bcells_get hu
  obtain ⟨g', off', e, hc⟩ := h (by omega)
  cases e
  rw [Addr.add_lit]
  exact hc j hj
theorem any_cells {w : World} {ao : Option Addr} {n : Nat} {f : Nat → Int} (h : Rd w ao n f) : ∀ ad, ao = some ad → ∀ j u, (bcells n f)[j]? = some u → w.cell? (ad.add j) = some u := by
  intro ad had j u hu
  obtain ⟨hj, rfl⟩ := bcells_get hu
  obtain ⟨g, off, rfl, hc⟩ := h (by omega)
  obtain rfl := Option.some.inj had
  rw [Addr.add_lit]
  exact hc j hj
theorem Rd.first {w : World} {ao : Option Addr} {n m : Nat} {f : Nat → Int} (h : Rd w ao n f) (hm : m ≤ n) : Rd w ao m f := by
  intro hp
  obtain ⟨g, off, rfl, hc⟩ := h (by omega)
  exact ⟨g, off, rfl, fun j hj => hc j (by omega)⟩
theorem Rd.from {w : World} {g off n k m : Nat} {f : Nat → Int} (h : Rd w (some ⟨g, off, none⟩) n f) (hm : k + m ≤ n) : Rd w (some ⟨g, off + k, none⟩) m (fun j => f (k + j)) := by
  intro hp
  obtain ⟨g', off', e, hc⟩ := h (by omega)
  cases e
  exact ⟨g, off + k, rfl, fun j hj => by rw [Nat.add_assoc]; exact hc (k + j) (by omega)⟩

theorem zzBytes4_any (a : Option Addr) (n c : Nat) (s t : ByteArray) (w : World) (hn : n ≤ 9223372036854775807) (hs : s.size ≤ 9223372036854775807) (ht : t.size ≤ 9223372036854775807) :
    Calls Trym.prog 16 #[.slice a n c, .string s, .string t] w fun e w' => e = .returned (.bool (decide (n + s.size + t.size ≤ 1048576))) ∧ w = w' := by
  by_cases h1 : n ≤ 1048576
  · by_cases h2 : s.size ≤ 1048576
    · by_cases h3 : n + s.size ≤ 1048576
      · by_cases h4 : t.size ≤ 1048576
        · by_cases h5 : n + s.size + t.size ≤ 1048576
          · go_enter Trym.func16, Trym.ntmps16
            go_wp2
            go_ret
            exact ⟨by simp [h5], rfl⟩
          · go_enter Trym.func16, Trym.ntmps16
            go_wp2
            go_ret
            exact ⟨by simp [h5], rfl⟩
        · go_enter Trym.func16, Trym.ntmps16
          go_wp2
          go_ret
          exact ⟨by simp; omega, rfl⟩
      · go_enter Trym.func16, Trym.ntmps16
        go_wp2
        go_ret
        exact ⟨by simp; omega, rfl⟩
    · go_enter Trym.func16, Trym.ntmps16
      go_wp2
      go_ret
      exact ⟨by simp; omega, rfl⟩
  · go_enter Trym.func16, Trym.ntmps16
    go_wp2
    go_ret
    exact ⟨by simp; omega, rfl⟩

theorem law4_long (a0 : Option Addr) (n c : Nat) (s t : ByteArray) (w : World) (hn : n ≤ 9223372036854775807) (hs : s.size ≤ 9223372036854775807) (ht : t.size ≤ 9223372036854775807) (hl : ¬ n + s.size + t.size ≤ 1048576) :
    Calls Trym.prog 6 #[.slice a0 n c, .string s, .string t] w fun e w' => e = .returned (.bool true) ∧ Below w.heap.size w w' := by
  have hd : decide (n + s.size + t.size ≤ 1048576) = false := by simp; omega
  go_enter Trym.func6, Trym.ntmps6
  go_wp2_with (go_at_call 16; refine (zzBytes4_any _ _ _ _ _ _ hn hs ht).mono ?_; rintro e w' ⟨rfl, rfl⟩; rw [hd])
  go_ret
  exact ⟨rfl, Below.refl _ _⟩

set_option maxHeartbeats 800000 in
theorem law4_in (a0 : Option Addr) (n c : Nat) (f : Nat → Int) (s t : ByteArray) (w : World) (hl : n + s.size + t.size ≤ 1048576) (hnil : a0 = none → n = 0 ∧ c = 0) (hrd : Rd w a0 n f) :
    Calls Trym.prog 6 #[.slice a0 n c, .string s, .string t] w fun e w' => e = .returned (.bool true) ∧ Below w.heap.size w w' := by
  have hd : decide (n + s.size + t.size ≤ 1048576) = true := by simp; omega
  have HRD : Hid (Rd w a0 n f) := hrd
  have HNIL : Hid (a0 = none → n = 0 ∧ c = 0) := hnil
  clear hrd hnil
  have hst : (s ++ t).size = s.size + t.size := ByteArray.size_append
  go_enter Trym.func6, Trym.ntmps6
  go_wp2_with (first | (go_at_call 16; refine (zzBytes4_any _ _ _ _ _ _ (by omega) (by omega) (by omega)).mono ?_; rintro e w' ⟨rfl, rfl⟩; rw [hd]) | (go_at_call 12; refine (clone_any a0 n c f _ (by omega) HNIL.out HRD.out).mono ?_; rintro e w1 ⟨ao, rfl, hao, hrd1, hb1⟩; have HAO : Hid (ao = none → n = 0) := hao; have HR1 : Hid (Rd w1 ao n f) := hrd1; clear hao hrd1))
  refine (zzlit_any ao n f (s ++ t) _ (by omega) (by omega) HAO.out HR1.out).mono ?_
  rintro e w2 ⟨g1, m1, c1, rfl, hm1, hc1, hd1, hr1, hg1, hb2⟩
  have HM1 : Hid (m1 = (lit (listOf n f) (PlainAid.bt (s ++ t)) (s ++ t).size).length) := hm1
  have HR2 : Hid (Rd w2 (some ⟨g1, 0, none⟩) m1 (at8 (lit (listOf n f) (PlainAid.bt (s ++ t)) (s ++ t).size))) := hr1
  clear hm1 hr1
  go_wp2_with fail
  refine (zzlit_any none 0 f s _ (by omega) (by omega) (fun _ => rfl) (fun h => absurd h (by omega))).mono ?_
  rintro e w3 ⟨g2, m2, c2, rfl, hm2, hc2, hd2, hr2, hg2, hb3⟩
  have hl2 := lit_nil_bd (PlainAid.bt s) s.size
  have e2 : listOf 0 f = [] := rfl
  rw [e2] at hm2 hr2
  obtain ⟨p2, rfl⟩ : ∃ p2, m2 = p2 + 1 := ⟨m2 - 1, by omega⟩
  have hp2 : 2 ≤ p2 ∧ p2 ≤ 2097154 := by omega
  have HM2 : Hid (p2 + 1 = (lit [] (PlainAid.bt s) s.size).length) := hm2
  have HR3 : Hid (Rd w3 (some ⟨g2, 0, none⟩) (p2 + 1) (at8 (lit [] (PlainAid.bt s) s.size))) := hr2
  clear hm2 hr2 hl2 e2
  go_wp2_with fail
  refine (zzlit_any none 0 f t _ (by omega) (by omega) (fun _ => rfl) (fun h => absurd h (by omega))).mono ?_
  rintro e w4 ⟨g3, m3, c3, rfl, hm3, hc3, hd3, hr3, hg3, hb4⟩
  have hl3 := lit_nil_bd (PlainAid.bt t) t.size
  have e3 : listOf 0 f = [] := rfl
  rw [e3] at hm3 hr3
  obtain ⟨p3, rfl⟩ : ∃ p3, m3 = p3 + 2 := ⟨m3 - 2, by omega⟩
  have hp3 : 1 ≤ p3 ∧ p3 ≤ 2097154 := by omega
  have HM3 : Hid (p3 + 2 = (lit [] (PlainAid.bt t) t.size).length) := hm3
  have HR4 : Hid (Rd w4 (some ⟨g3, 0, none⟩) (p3 + 2) (at8 (lit [] (PlainAid.bt t) t.size))) := hr3
  clear hm3 hr3 hl3 e3
  have hm1 : m1 = n + p2 + p3 := HM1.out.trans (want_length n f s t p2 p3 HM2.out HM3.out).symm
  subst hm1
  -- all that was made lies still there
  have hB4 : Below w.heap.size w w4 := ((hb1.trans (hb2.mono hb1.size)).trans (hb3.mono (Nat.le_trans hb1.size hb2.size))).trans (hb4.mono (Nat.le_trans hb1.size (Nat.le_trans hb2.size hb3.size)))
  have hB24 : Below w2.heap.size w2 w4 := hb3.trans (hb4.mono hb3.size)
  have hB14 : Below w1.heap.size w1 w4 := hb2.trans (hB24.mono hb2.size)
  have R1 : Hid (Rd w4 ao n f) := HR1.out.later hB14
  have R2 : Hid (Rd w4 (some ⟨g1, 0, none⟩) (n + p2 + p3) (at8 (lit (listOf n f) (PlainAid.bt (s ++ t)) (s ++ t).size))) := HR2.out.later hB24
  have R3 : Hid (Rd w4 (some ⟨g2, 0, none⟩) (p2 + 1) (at8 (lit [] (PlainAid.bt s) s.size))) := HR3.out.later hb4
  obtain ⟨i0, hi, hz0, hz1, hz2⟩ := info_parts i5
  have hp2a := hp2.1
  have hp2b := hp2.2
  have hp3a := hp3.1
  have hp3b := hp3.2
  clear HR1 HR2 HR3 hb2 hb3 hb4 hB24 hB14 hp2 hp3
  go_wp2_with (first | (at_make; refine wpList_make_own _ rfl _ _ 22 rfl w4.heap.size 5 i0 (.int .u8 0) 1 Trym.underlying22 hi hz0 hz1 .i64 .i64 _ (n + (p2 + 1) + (p3 + 2)) rfl rfl (by omega) (by rw [hz2]; omega) (by unfold maxLen; omega) (Nat.le_refl _) ?_; intro w5 hown5 hgrow5; have hb5 : Below w4.heap.size w4 w5 := (Below.refl _ _).grown hgrow5 (Nat.le_refl _) (fun k h => by cases h)) | ((with_reducible refine at_built .append ?_); refine wpList_append_fits_any _ rfl (.tmp 53) (.tmp 54) 22 rfl w4.heap.size 5 i0 1 Trym.underlying22 hi hz1 w4.heap.size 0 (n + (p2 + 1) + (p3 + 2)) [] rfl hown5 ao n n (bcells n f) rfl (by rw [bcells_length]; omega) (fun h => ⟨HAO.out h, HAO.out h⟩) (any_cells (R1.out.later hb5)) (bcells_one _ _) (by omega) ?_; intro w6 hown6 hgrow6; simp only [Nat.zero_add, List.nil_append] at hown6; have hb6 := hb5.grown hgrow6 hb5.size (fun k h => by cases h; exact Nat.le_refl _)) | ((with_reducible refine at_built .append ?_); refine wpList_append_fits _ rfl (.tmp 56) (.tmp 61) 22 rfl w4.heap.size 5 i0 1 Trym.underlying22 hi hz1 w4.heap.size n (n + (p2 + 1) + (p3 + 2)) (bcells n f) rfl hown6 ⟨g2, 0, none⟩ p2 c2 (bcells p2 (at8 (lit [] (PlainAid.bt s) s.size))) rfl (by rw [bcells_length]; omega) (head_cells ((R3.out.later hb6).first (by omega))) (bcells_one _ _) (by omega) ?_; intro w7 hown7 hgrow7; have hb7 := hb6.grown hgrow7 hb6.size (fun k h => by cases h; exact Nat.le_refl _)) | ((with_reducible refine at_built .append ?_); refine wpList_append_fits _ rfl (.tmp 63) (.tmp 65) 22 rfl w4.heap.size 5 i0 1 Trym.underlying22 hi hz1 w4.heap.size (n + p2) (n + (p2 + 1) + (p3 + 2)) (bcells n f ++ bcells p2 (at8 (lit [] (PlainAid.bt s) s.size))) rfl hown7 ⟨g3, 2, none⟩ p3 (c3 - 2) (bcells p3 (fun j => at8 (lit [] (PlainAid.bt t) t.size) (2 + j))) rfl (by rw [bcells_length]; omega) (head_cells ((HR4.out.later hb7).from (k := 2) (by omega))) (bcells_one _ _) (by omega) ?_; intro w8 hown8 hgrow8; have hb8 := hb7.grown hgrow8 hb7.size (fun k h => by cases h; exact Nat.le_refl _); rw [want_cells n f s t p2 p3 HM2.out HM3.out] at hown8))
  refine (eq_any _ _ (n + p2 + p3) _ _ (at8 (lit (listOf n f) (PlainAid.bt (s ++ t)) (s ++ t).size)) _ (by omega) (R2.out.later hb8) (Rd.of_own hown8)).mono ?_
  rintro e w9 ⟨rfl, q, rfl⟩
  go_wp2
  go_ret
  exact ⟨rfl, below_drewN (hB4.trans (hb8.mono hB4.size)) q⟩

theorem law4_any (a0 : Option Addr) (n c : Nat) (f : Nat → Int) (s t : ByteArray) (w : World) (hn : n ≤ 9223372036854775807) (hs : s.size ≤ 9223372036854775807) (ht : t.size ≤ 9223372036854775807) (hnil : a0 = none → n = 0 ∧ c = 0) (hrd : Rd w a0 n f) :
    Calls Trym.prog 6 #[.slice a0 n c, .string s, .string t] w fun e w' => e = .returned (.bool true) ∧ Below w.heap.size w w' := by
  by_cases hl : n + s.size + t.size ≤ 1048576
  · exact law4_in a0 n c f s t w hl hnil hrd
  · exact law4_long a0 n c s t w hn hs ht hl

end Go.Proofs.Qxb6600442aMods.Own
