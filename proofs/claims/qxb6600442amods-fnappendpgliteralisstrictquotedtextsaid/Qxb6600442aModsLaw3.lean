/-
  THE WALK OF FnAppendPGLiteralIsStrictQuotedText.
-/
import Derived.Test.Qxb6600442aModsLit
import Derived.Test.Qxb6600442aModsDecode
import Derived.WalkSmall
set_option linter.unusedVariables false
namespace Go.Proofs.Qxb6600442aMods.Own
open Go Go.RowKit Go.Proofs.Qxb6600442aMods.Plain

theorem zzBytes3_any (a : Option Addr) (n c : Nat) (s : ByteArray) (w : World) (hn : n ≤ 9223372036854775807) (hs : s.size ≤ 9223372036854775807) :
    Calls Trym.prog 11 #[.slice a n c, .string s] w fun e w' => e = .returned (.bool (decide (n + s.size ≤ 1048576))) ∧ w = w' := by
  by_cases h1 : n ≤ 1048576
  · by_cases h2 : s.size ≤ 1048576
    · by_cases h3 : n + s.size ≤ 1048576
      · go_enter Trym.func11, Trym.ntmps11
        go_wp2
        go_ret
        exact ⟨by simp [h3], rfl⟩
      · go_enter Trym.func11, Trym.ntmps11
        go_wp2
        go_ret
        exact ⟨by simp [h3], rfl⟩
    · go_enter Trym.func11, Trym.ntmps11
      go_wp2
      go_ret
      exact ⟨by simp; omega, rfl⟩
  · go_enter Trym.func11, Trym.ntmps11
    go_wp2
    go_ret
    exact ⟨by simp; omega, rfl⟩

theorem law3_long (a0 : Option Addr) (n c : Nat) (s : ByteArray) (w : World) (hn : n ≤ 9223372036854775807) (hs : s.size ≤ 9223372036854775807) (hl : ¬ n + s.size ≤ 1048576) :
    Calls Trym.prog 5 #[.slice a0 n c, .string s] w fun e w' => e = .returned (.bool true) ∧ Below w.heap.size w w' := by
  have hd : decide (n + s.size ≤ 1048576) = false := by simp; omega
  go_enter Trym.func5, Trym.ntmps5
  go_wp2_with (go_at_call 11; refine (zzBytes3_any _ _ _ _ _ hn hs).mono ?_; rintro e w' ⟨rfl, rfl⟩; rw [hd])
  go_ret
  exact ⟨rfl, Below.refl _ _⟩

/-! The literal's bytes, place by place. -/
theorem lit_parts (b : List Int) (f : Nat → Int) (m : Nat) : lit b f m = b ++ ([69, 39] ++ (esc f m ++ [39])) := by simp [lit, lit0]
theorem lit_front (b : List Int) (f : Nat → Int) (m j : Nat) (h : j < b.length) : at8 (lit b f m) j = at8 b j := by rw [lit_parts]; exact at8_left _ _ j h
theorem lit_E (b : List Int) (f : Nat → Int) (m : Nat) : at8 (lit b f m) (b.length + 0) = 69 := by rw [lit_parts, at8_right]; rfl
theorem lit_Q (b : List Int) (f : Nat → Int) (m : Nat) : at8 (lit b f m) (b.length + 1) = 39 := by rw [lit_parts, at8_right]; rfl
theorem lit_body (b : List Int) (f : Nat → Int) (m j : Nat) (h : j < (esc f m).length) : at8 (lit b f m) (b.length + (2 + j)) = at8 (esc f m) j := by
  rw [lit_parts, at8_right]
  have := at8_right [69, 39] (esc f m ++ [39]) j
  rw [at8_left _ _ _ h] at this
  exact this
theorem lit_last (b : List Int) (f : Nat → Int) (m : Nat) : at8 (lit b f m) (b.length + (2 + ((esc f m).length + 0))) = 39 := by
  have h1 : at8 ([69, 39] ++ (esc f m ++ [39])) (2 + ((esc f m).length + 0)) = at8 (esc f m ++ [39]) ((esc f m).length + 0) := at8_right [69, 39] (esc f m ++ [39]) ((esc f m).length + 0)
  have h2 : at8 (esc f m ++ [39]) ((esc f m).length + 0) = 39 := at8_right (esc f m) [39] 0
  rw [lit_parts, at8_right, h1, h2]

/-- What is read at the literal's head, for b1DecodePGLiteral. -/
theorem lit_cells {w : World} {g n m p : Nat} {fb f : Nat → Int} (hp : p = (esc f m).length) (h : Rd w (some ⟨g, 0, none⟩) (n + 3 + p) (at8 (lit (listOf n fb) f m))) :
    w.cell? ⟨g, n, none⟩ = some (.int .u8 69) ∧ w.cell? ⟨g, n + 1, none⟩ = some (.int .u8 39) ∧ w.cell? ⟨g, n + (p + 2), none⟩ = some (.int .u8 39) ∧ ∀ j, j < p → w.cell? ⟨g, n + 2 + j, none⟩ = some (.int .u8 (at8 (esc f m) j)) := by
  obtain ⟨g', o, e, hc⟩ := h (by omega)
  cases e
  have hb := listOf_length n fb
  refine ⟨?_, ?_, ?_, fun j hj => ?_⟩
  · have := hc (n + 0) (by omega)
    have e := lit_E (listOf n fb) f m
    rw [hb] at e
    rw [e] at this
    simpa using this
  · have := hc (n + 1) (by omega)
    have e := lit_Q (listOf n fb) f m
    rw [hb] at e
    rw [e] at this
    simpa using this
  · have := hc (n + (2 + (p + 0))) (by omega)
    have e := lit_last (listOf n fb) f m
    rw [hb, ← hp] at e
    rw [e] at this
    rwa [show 0 + (n + (2 + (p + 0))) = n + (p + 2) by omega] at this
  · have := hc (n + (2 + j)) (by omega)
    have e := lit_body (listOf n fb) f m j (by omega)
    rw [hb] at e
    rw [e] at this
    rwa [show 0 + (n + (2 + j)) = n + 2 + j by omega] at this

set_option maxHeartbeats 800000 in
theorem law3_in (a0 : Option Addr) (n c : Nat) (f : Nat → Int) (s : ByteArray) (w : World) (hl : n + s.size ≤ 1048576) (hnil : a0 = none → n = 0 ∧ c = 0) (hrd : Rd w a0 n f) :
    Calls Trym.prog 5 #[.slice a0 n c, .string s] w fun e w' => e = .returned (.bool true) ∧ Below w.heap.size w w' := by
  have hd : decide (n + s.size ≤ 1048576) = true := by simp; omega
  have HRD : Hid (Rd w a0 n f) := hrd
  have HNIL : Hid (a0 = none → n = 0 ∧ c = 0) := hnil
  clear hrd hnil
  obtain ⟨p, hp⟩ : ∃ p, p = (esc (PlainAid.bt s) s.size).length := ⟨_, rfl⟩
  have hpb := esc_length (PlainAid.bt s) s.size
  rw [← hp] at hpb
  have hpb2 := hpb.2
  have HP : Hid (p = (esc (PlainAid.bt s) s.size).length) := hp
  clear hp hpb
  go_enter Trym.func5, Trym.ntmps5
  go_wp2_with (first | (go_at_call 11; refine (zzBytes3_any _ _ _ _ _ (by omega) (by omega)).mono ?_; rintro e w' ⟨rfl, rfl⟩; rw [hd]) | (go_at_call 12; refine (clone_any a0 n c f _ (by omega) HNIL.out HRD.out).mono ?_; rintro e w1 ⟨ao, rfl, hao, hrd1, hb1⟩; have HAO : Hid (ao = none → n = 0) := hao; have HR1 : Hid (Rd w1 ao n f) := hrd1; clear hao hrd1))
  refine (zzlit_any ao n f s _ (by omega) (by omega) HAO.out HR1.out).mono ?_
  rintro e w2 ⟨g1, m1, c1, rfl, hm1, hc1, hd1, hr1, hg1, hb2⟩
  rw [lit_length, listOf_length, ← HP.out] at hm1
  subst hm1
  have R1 : Hid (Rd w2 ao n f) := HR1.out.later hb2
  have HR2 : Hid (Rd w2 (some ⟨g1, 0, none⟩) (n + 3 + p) (at8 (lit (listOf n f) (PlainAid.bt s) s.size))) := hr1
  have hB2 : Below w.heap.size w w2 := hb1.trans (hb2.mono hb1.size)
  clear hr1 HR1 hb2
  go_wp2
  go_loopw [6] (fun i wr => ∃ k q : Nat, k ≤ n ∧ i = .int .i64 k ∧ wr = w2.drewN q) (fun i _ => n - (intOf i).toNat)
  case atStart => exact ⟨0, 0, Nat.zero_le _, rfl, rfl⟩
  case round =>
    obtain ⟨k, q, hk, rfl, rfl⟩ := hrel
    by_cases hlt : k < n
    · obtain ⟨g3, o3, rfl, h3⟩ := R1.out (by omega)
      obtain ⟨g4, o4, e4, h4⟩ := HR2.out (by omega)
      cases e4
      have x1 := h3 k hlt
      have x2 := h4 k (by omega)
      rw [lit_front _ _ _ k (by rw [listOf_length]; exact hlt), listOf_at hlt, Nat.zero_add] at x2
      clear h3 h4
      have hi1 : (0 : Int) ≤ (k : Int) := by omega
      have hi2 : (k : Int) < (n : Int) := by omega
      have hi3 : (k : Int) < (n : Int) + 3 + (p : Int) := by omega
      go_wp2
      go_quiet (fail)
      go_wp2
      go_roundw
      case rel => exact ⟨k + 1, _, by omega, by go_num, rfl⟩
      case measure => simp [intOf]; omega
    · go_wp2_with fail
      rw [show n + 3 + p - n = p + 3 by omega]
      obtain ⟨y0, y1, y2, y3⟩ := lit_cells HP.out HR2.out
      refine (decode_any g1 n (c1 - n) s.size p (PlainAid.bt s) _ (by omega) HP.out (by omega) (by omega) (by simpa using y0) (by simpa using y1) (by simpa using y2) (by simpa using y3)).mono ?_
      clear y0 y1 y2 y3
      rintro e w3 ⟨v, rfl, hown, hb3⟩
      obtain ⟨ao3, cap3, rfl, hrd3⟩ := own_slice hown
      rw [listOf_length] at hrd3
      rw [listOf_length]
      have R3 : Hid (Rd w3 ao3 s.size (PlainAid.bt s)) := hrd3.congr (fun j hj => listOf_at hj)
      clear hown hrd3
      go_wp2_with fail
      refine (eqs_any ao3 cap3 (PlainAid.bt s) s _ (by omega) R3.out (PlainAid.get_bt s)).mono ?_
      rintro e w4 ⟨rfl, q4, rfl⟩
      go_wp2
      go_ret
      exact ⟨rfl, below_drewN ((below_drewN hB2 q).trans (hb3.mono hB2.size)) q4⟩

theorem law3_any (a0 : Option Addr) (n c : Nat) (f : Nat → Int) (s : ByteArray) (w : World) (hn : n ≤ 9223372036854775807) (hs : s.size ≤ 9223372036854775807) (hnil : a0 = none → n = 0 ∧ c = 0) (hrd : Rd w a0 n f) :
    Calls Trym.prog 5 #[.slice a0 n c, .string s] w fun e w' => e = .returned (.bool true) ∧ Below w.heap.size w w' := by
  by_cases hl : n + s.size ≤ 1048576
  · exact law3_in a0 n c f s w hl hnil hrd
  · exact law3_long a0 n c s w hn hs hl

end Go.Proofs.Qxb6600442aMods.Own
