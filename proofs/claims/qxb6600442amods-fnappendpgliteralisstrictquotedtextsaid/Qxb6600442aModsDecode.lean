/-
  THE WALKS OF b1DecodePGLiteral AND b1EqualBytesString ON THE ROAD OF FnAppendPGLiteralIsStrictQuotedText.
-/
import Derived.Test.Qxb6600442aModsProg
import Derived.Test.Qxb6600442aModsKitB
import Derived.Test.Qxb6600442aModsLitPlain
import Derived.Deep.QuietTactic
import Derived.BigQuiet
set_option linter.unusedVariables false
namespace Go.Proofs.Qxb6600442aMods.Own
open Go Go.RowKit Go.Proofs.Qxb6600442aMods.Plain

theorem i5d : (Trym.prog.info? 5).map (fun i => (i.zero, i.size, i.bytes)) = some (some (.int .u8 0), 1, 1) := by kernel_rfl

set_option maxHeartbeats 400000 in
theorem eqs_any (a : Option Addr) (c : Nat) (f : Nat → Int) (s : ByteArray) (w : World) (hn : s.size ≤ 9223372036854775807) (ha : Rd w a s.size f) (hbt : ∀ (n : Nat) (h : n < s.size), ((s[n]'h).toNat : Int) = f n) :
    Calls Trym.prog 15 #[.slice a s.size c, .string s] w fun e w' => e = .returned (.bool true) ∧ ∃ q, w' = w.drewN q := by
  have HA : Hid (Rd w a s.size f) := ha
  clear ha
  go_enter Trym.func15, Trym.ntmps15
  go_wp2
  go_loopw [5] (fun i wr => ∃ k q : Nat, k ≤ s.size ∧ i = .int .i64 k ∧ wr = w.drewN q) (fun i _ => s.size - (intOf i).toNat)
  case atStart => exact ⟨0, 0, Nat.zero_le _, rfl, rfl⟩
  case round =>
    obtain ⟨k, q, hk, rfl, rfl⟩ := hrel
    by_cases hlt : k < s.size
    · obtain ⟨g1, o1, rfl, h1⟩ := HA.out (by omega)
      have e1 := h1 k hlt
      clear h1
      have hi1 : (0 : Int) ≤ (k : Int) := by omega
      have hi2 : (k : Int) < (s.size : Int) := by omega
      go_wp2
      go_quiet (fail)
      go_wp2
      go_roundw
      case rel => exact ⟨k + 1, _, by omega, by go_num, rfl⟩
      case measure => simp [intOf]; omega
    · go_wp2
      go_ret
      exact ⟨rfl, q, rfl⟩

/-- What an owned row is, as a slice that is read. -/
theorem own_slice {w : World} {base : Nat} {v : Value} {zs : List Int} (h : w.ownsRow base 5 1 v zs.length (lits8 zs)) : ∃ ao cap, v = .slice ao zs.length cap ∧ Rd w ao zs.length (at8 zs) := by
  rcases h.2 with ⟨hv, h0⟩ | ⟨g, cap, cur, hv, _⟩
  · exact ⟨none, 0, by rw [hv, h0], fun hp => absurd hp (by omega)⟩
  · subst hv
    exact ⟨_, _, rfl, Rd.of_own h⟩

theorem esc_piece (f : Nat → Int) (k m : Nat) (h : k < m) : ∃ r, esc f m = esc f k ++ (piece (f k) ++ r) := by
  obtain ⟨r, hr⟩ := esc_split f (k + 1) (m - (k + 1))
  refine ⟨r, ?_⟩
  rw [show k + 1 + (m - (k + 1)) = m by omega] at hr
  rw [hr]
  show (esc f k ++ piece (f k)) ++ r = _
  rw [List.append_assoc]
theorem esc_len_le (f : Nat → Int) (k m : Nat) (h : k ≤ m) : (esc f k).length ≤ (esc f m).length := by
  obtain ⟨r, hr⟩ := esc_split f k (m - k)
  rw [show k + (m - k) = m by omega] at hr
  rw [hr]; simp
theorem esc_at_two (f : Nat → Int) (k m : Nat) (h : k < m) (hc : f k = 39 ∨ f k = 92) :
    at8 (esc f m) (esc f k).length = f k ∧ at8 (esc f m) ((esc f k).length + 1) = f k ∧ (esc f k).length + 2 ≤ (esc f m).length ∧ (esc f (k + 1)).length = (esc f k).length + 2 := by
  obtain ⟨r, hr⟩ := esc_piece f k m h
  rw [piece_two hc] at hr
  refine ⟨?_, ?_, ?_, ?_⟩
  · rw [hr]; exact at8_right _ _ 0
  · rw [hr]; exact at8_right _ _ 1
  · rw [hr]; simp
  · simp [esc, piece_two hc]
theorem esc_at_one (f : Nat → Int) (k m : Nat) (h : k < m) (hc : ¬ (f k = 39 ∨ f k = 92)) :
    at8 (esc f m) (esc f k).length = f k ∧ (esc f k).length + 1 ≤ (esc f m).length ∧ (esc f (k + 1)).length = (esc f k).length + 1 := by
  obtain ⟨r, hr⟩ := esc_piece f k m h
  rw [piece_one hc] at hr
  refine ⟨?_, ?_, ?_⟩
  · rw [hr]; exact at8_right _ _ 0
  · rw [hr]; simp
  · simp [esc, piece_one hc]

set_option maxHeartbeats 1600000 in
/-- b1DecodePGLiteral reads a literal back. -/
theorem decode_any (g off c m p : Nat) (f : Nat → Int) (w : World) (hm : m ≤ 1048576) (hp : p = (esc f m).length) (hc : p + 3 ≤ c) (hcm : c ≤ 9223372036854775807)
    (h0 : w.cell? ⟨g, off, none⟩ = some (.int .u8 69)) (h1 : w.cell? ⟨g, off + 1, none⟩ = some (.int .u8 39)) (h2 : w.cell? ⟨g, off + (p + 2), none⟩ = some (.int .u8 39))
    (hcell : ∀ j, j < p → w.cell? ⟨g, off + 2 + j, none⟩ = some (.int .u8 (at8 (esc f m) j))) :
    Calls Trym.prog 14 #[.slice (some ⟨g, off, none⟩) (p + 3) c] w fun e w' => ∃ v, e = .returned (.tuple #[v, .bool true]) ∧ w'.ownsRow w.heap.size 5 1 v (listOf m f).length (lits8 (listOf m f)) ∧ Below w.heap.size w w' := by
  have hpl := (esc_length f m).2
  have hp2 : p ≤ 2097152 := by omega
  have HP : Hid (p = (esc f m).length) := hp
  have HC : Hid (∀ j, j < p → w.cell? ⟨g, off + 2 + j, none⟩ = some (.int .u8 (at8 (esc f m) j))) := hcell
  obtain ⟨i0, hi, hz0, hz1, hz2⟩ := info_parts i5d
  clear hp hcell hpl
  go_enter Trym.func14, Trym.ntmps14
  go_wp2_with (first | (at_make; refine wpList_make_own _ rfl _ _ 22 rfl w.heap.size 5 i0 (.int .u8 0) 1 Trym.underlying22 hi hz0 hz1 .i64 .i64 _ p rfl rfl (by omega) (by rw [hz2]; omega) (by unfold maxLen; omega) (Nat.le_refl _) ?_; intro w5 hown5 hgrow5; have hb5 : Below w.heap.size w w5 := (Below.refl _ _).grown hgrow5 (Nat.le_refl _) (fun k h => by cases h)))
  have hstart : Hid (w5.ownsRow w.heap.size 5 1 (.slice (some ⟨w.heap.size, 0, none⟩) 0 p) (listOf 0 f).length (lits8 (listOf 0 f))) := hown5
  go_loopw [5, 6] (fun v i wr => ∃ k q : Nat, k ≤ m ∧ q = (esc f k).length ∧ q ≤ p ∧ i = .int .i64 q ∧ Hid (wr.ownsRow w.heap.size 5 1 v (listOf k f).length (lits8 (listOf k f))) ∧ Below w.heap.size w wr) (fun _ i _ => p - (intOf i).toNat)
  case atStart => exact ⟨0, 0, Nat.zero_le _, rfl, Nat.zero_le _, rfl, hstart, hb5⟩
  case round =>
    obtain ⟨k, q, hk, hq, hqp, rfl, hown, hbel⟩ := hrel
    have HQ : Hid (q = (esc f k).length) := hq
    have hsz := hbel.size
    clear hq
    by_cases hlt : k < m
    · by_cases hcc : f k = 39 ∨ f k = 92
      · obtain ⟨ha, hb, hd, he⟩ := esc_at_two f k m hlt hcc
        rw [← HQ.out] at ha hb hd he
        rw [← HP.out] at hd
        have HS : Hid ((esc f (k + 1)).length = q + 2) := he
        have x1 : wr.cell? ⟨g, off + 2 + q, none⟩ = some (.int .u8 (f k)) := by rw [← ha]; exact cell_later hbel (HC.out q (by omega))
        have x2 : wr.cell? ⟨g, off + 2 + (q + 1), none⟩ = some (.int .u8 (f k)) := by rw [← hb]; exact cell_later hbel (HC.out (q + 1) (by omega))
        clear ha hb he
        rcases hcc with hcc | hcc
        · have h39 : (f k == 39) = true := by rw [hcc]; rfl
          have h92 : (f k == 92) = false := by rw [hcc]; rfl
          clear hcc
          go_wp2_with (first | ((with_reducible refine at_built .append ?_); refine wpList_push rfl (.tmp 68) (.tmp 70) 22 rfl Trym.underlying22 i5d w.heap.size _ (listOf k f) (f k) rfl hown rfl (by rw [listOf_length]; omega) w hbel hsz ?_; intro v3 w3 G3 B3; rw [← listOf_succ] at G3))
          go_roundw
          case rel => exact ⟨k + 1, q + 2, by omega, HS.out.symm, by omega, by go_num, G3, B3⟩
          case measure => simp [intOf]; omega
        · have h39 : (f k == 39) = false := by rw [hcc]; rfl
          have h92 : (f k == 92) = true := by rw [hcc]; rfl
          clear hcc
          go_wp2_with (first | ((with_reducible refine at_built .append ?_); refine wpList_push rfl (.tmp 68) (.tmp 70) 22 rfl Trym.underlying22 i5d w.heap.size _ (listOf k f) (f k) rfl hown rfl (by rw [listOf_length]; omega) w hbel hsz ?_; intro v3 w3 G3 B3; rw [← listOf_succ] at G3))
          go_roundw
          case rel => exact ⟨k + 1, q + 2, by omega, HS.out.symm, by omega, by go_num, G3, B3⟩
          case measure => simp [intOf]; omega
      · obtain ⟨ha, hd, he⟩ := esc_at_one f k m hlt hcc
        rw [← HQ.out] at ha hd he
        rw [← HP.out] at hd
        have HS : Hid ((esc f (k + 1)).length = q + 1) := he
        have x1 : wr.cell? ⟨g, off + 2 + q, none⟩ = some (.int .u8 (f k)) := by rw [← ha]; exact cell_later hbel (HC.out q (by omega))
        have h39 : (f k == 39) = false := by simp; omega
        have h92 : (f k == 92) = false := by simp; omega
        clear ha he hcc
        go_wp2_with (first | ((with_reducible refine at_built .append ?_); refine wpList_push rfl (.tmp 74) (.tmp 76) 22 rfl Trym.underlying22 i5d w.heap.size _ (listOf k f) (f k) rfl hown rfl (by rw [listOf_length]; omega) w hbel hsz ?_; intro v3 w3 G3 B3; rw [← listOf_succ] at G3))
        go_roundw
        case rel => exact ⟨k + 1, q + 1, by omega, HS.out.symm, by omega, by go_num, G3, B3⟩
        case measure => simp [intOf]; omega
    · obtain rfl : k = m := by omega
      have hqe : q = p := by rw [HQ.out, HP.out]
      subst hqe
      go_wp2
      go_ret2
      exact ⟨_, rfl, hown.out, hbel⟩

end Go.Proofs.Qxb6600442aMods.Own
