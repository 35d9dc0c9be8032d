/-
  THE WALKS OF appendPGLiteral, ITS SHIM, b1CloneBytes.
-/
import Derived.Test.Qxb6600442aModsProg
import Derived.Test.Qxb6600442aModsKitB
import Derived.Test.Qxb6600442aModsLitPlain
set_option linter.unusedVariables false
namespace Go.Proofs.Qxb6600442aMods.Own
open Go Go.RowKit Go.Proofs.Qxb6600442aMods.Plain

theorem i5 : (Trym.prog.info? 5).map (fun i => (i.zero, i.size, i.bytes)) = some (some (.int .u8 0), 1, 1) := by kernel_rfl
theorem s5 : (Trym.prog.info? 5).map (·.size) = some 1 := by kernel_rfl

/-- b1CloneBytes: a copy of its own; nil stays nil. -/
theorem clone_any (a0 : Option Addr) (n c : Nat) (f : Nat → Int) (w : World) (hn : n ≤ 1048576) (hnil : a0 = none → n = 0 ∧ c = 0) (hrd : Rd w a0 n f) :
    Calls Trym.prog 12 #[.slice a0 n c] w fun e w' => ∃ ao, e = .returned (.slice ao n n) ∧ (ao = none → n = 0) ∧ Rd w' ao n f ∧ Below w.heap.size w w' := by
  cases a0 with
  | none =>
    obtain ⟨rfl, rfl⟩ := hnil rfl
    have hne := fun wx => Lib.run_eql_slice_nil (P := Trym.prog) wx 22 5 none 0 0 0 0 Trym.underlying22
    go_enter Trym.func12, Trym.ntmps12
    go_wp2
    go_ret
    exact ⟨none, rfl, hrd, Below.refl _ _⟩
  | some x =>
    have hne := fun wx => Lib.run_eql_slice_nil (P := Trym.prog) wx 22 5 (some x) n c 0 0 Trym.underlying22
    have HRD : Hid (Rd w (some x) n f) := hrd
    clear hrd hnil
    go_enter Trym.func12, Trym.ntmps12
    go_wp2_with (first | (at_make; refine wpList_make_new _ rfl _ _ 22 rfl 5 (.int .u8 0) 1 Trym.underlying22 i5 rfl .i64 .i64 n rfl rfl (by omega) (by omega) ?_; intro w1 G1 B1 hsz1) | ((with_reducible refine at_built .copy ?_); refine wpList_copy_all rfl (.tmp 9) (.tmp 10) 22 22 rfl 5 Trym.underlying22 s5 w.heap.size n n c _ rfl rfl (.int .u8 0) 5 G1 f (HRD.out.later B1) w.heap.size w B1 (Nat.le_refl _) ?_; intro w2 G2 B2))
    go_ret
    exact ⟨some ⟨w.heap.size, 0, none⟩, rfl, (fun h => by cases h), fun _ => ⟨_, _, rfl, fun j hj => block_cell G2.out j hj⟩, B2⟩

theorem lit_start (n : Nat) (f g : Nat → Int) (b : List Int) (hb : bcells n f = lits8 b) : bcells n f ++ byteCells (ByteArray.mk #[69, 39]) = lits8 (lit0 b g 0) := by
  rw [lit0_zero, lits8_append, hb]
  rfl
theorem lit_start_length (b : List Int) (g : Nat → Int) : b.length + (ByteArray.mk #[69, 39]).size = (lit0 b g 0).length := by
  rw [lit0_zero, List.length_append]; rfl

set_option maxHeartbeats 800000 in
/-- appendPGLiteral onto a slice without room. -/
theorem lit_walk (ao : Option Addr) (f g : Nat → Int) (b : List Int) (s : ByteArray) (w : World) (hn : b.length ≤ 1048576) (hs : s.size ≤ 2097152) (hnil : ao = none → b.length = 0) (hrd : Rd w ao b.length f) (hb : bcells b.length f = lits8 b)
    (hbt : ∀ (n : Nat) (h : n < s.size), ((s[n]'h).toNat : Int) = g n) :
    Calls Trym.prog 19 #[.slice ao b.length b.length, .string s] w fun e w' => ∃ v, e = .returned v ∧ w'.ownsRow w.heap.size 5 1 v (lit b g s.size).length (lits8 (lit b g s.size)) ∧ Below w.heap.size w w' := by
  have HRD : Hid (Rd w ao b.length f) := hrd
  have HNIL : Hid (ao = none → b.length = 0) := hnil
  have HB : Hid (bcells b.length f = lits8 b) := hb
  clear hrd hnil hb
  go_enter Trym.func19, Trym.ntmps19
  go_wp2_with (first | ((with_reducible refine at_built .append ?_); refine wpList_append_str_grows rfl (.tmp 6) _ 22 9 rfl Trym.underlying22 Trym.underlying9 i5 ao b.length f _ rfl rfl HRD.out HNIL.out (by decide) (by have : (ByteArray.mk #[69, 39]).size = 2 := rfl; omega) ?_; intro v1 w1 G1 B1; rw [lit_start _ f g b HB.out, lit_start_length b g] at G1))
  go_loopw [0, 5] (fun v i wr => ∃ k : Nat, k ≤ s.size ∧ i = .int .i64 k ∧ Hid (wr.ownsRow w.heap.size 5 1 v (lit0 b g k).length (lits8 (lit0 b g k))) ∧ Below w.heap.size w wr) (fun _ i _ => s.size - (intOf i).toNat)
  case atStart => exact ⟨0, Nat.zero_le _, rfl, G1, B1⟩
  case round =>
    obtain ⟨k, hk, rfl, hown, hbel⟩ := hrel
    have hlen := (lit0_length b g k).2
    have hsz := hbel.size
    by_cases hlt : k < s.size
    · by_cases hc : g k = 39 ∨ g k = 92
      · have e2 := lit0_two (b := b) hc
        have HE : Hid (lit0 b g (k + 1) = lit0 b g k ++ [g k] ++ [g k]) := e2
        clear e2
        rcases hc with hc | hc
        · have h39 : (g k == 39) = true := by rw [hc]; rfl
          have h92 : (g k == 92) = false := by rw [hc]; rfl
          clear hc
          go_wp2_with (first | ((with_reducible refine at_built .append ?_); refine wpList_push rfl (.tmp 24) (.tmp 28) 22 rfl Trym.underlying22 i5 w.heap.size _ (lit0 b g k) (g k) rfl hown rfl (by omega) w hbel hsz ?_; intro v2 w2 G2 B2; have hsz2 := B2.size) | ((with_reducible refine at_built .append ?_); refine wpList_push rfl (.tmp 30) (.tmp 34) 22 rfl Trym.underlying22 i5 w.heap.size _ (lit0 b g k ++ [g k]) (g k) rfl G2 rfl (by simp; omega) w B2 hsz2 ?_; intro v3 w3 G3 B3; rw [← HE.out] at G3))
          go_roundw
          case rel => exact ⟨k + 1, by omega, by go_num, G3, B3⟩
          case measure => simp [intOf]; omega
        · have h39 : (g k == 39) = false := by rw [hc]; rfl
          have h92 : (g k == 92) = true := by rw [hc]; rfl
          clear hc
          go_wp2_with (first | ((with_reducible refine at_built .append ?_); refine wpList_push rfl (.tmp 24) (.tmp 28) 22 rfl Trym.underlying22 i5 w.heap.size _ (lit0 b g k) (g k) rfl hown rfl (by omega) w hbel hsz ?_; intro v2 w2 G2 B2; have hsz2 := B2.size) | ((with_reducible refine at_built .append ?_); refine wpList_push rfl (.tmp 30) (.tmp 34) 22 rfl Trym.underlying22 i5 w.heap.size _ (lit0 b g k ++ [g k]) (g k) rfl G2 rfl (by simp; omega) w B2 hsz2 ?_; intro v3 w3 G3 B3; rw [← HE.out] at G3))
          go_roundw
          case rel => exact ⟨k + 1, by omega, by go_num, G3, B3⟩
          case measure => simp [intOf]; omega
      · have e1 := lit0_one (b := b) hc
        have HE : Hid (lit0 b g (k + 1) = lit0 b g k ++ [g k]) := e1
        have h39 : (g k == 39) = false := by simp; omega
        have h92 : (g k == 92) = false := by simp; omega
        clear e1 hc
        go_wp2_with (first | ((with_reducible refine at_built .append ?_); refine wpList_push rfl (.tmp 30) (.tmp 34) 22 rfl Trym.underlying22 i5 w.heap.size _ (lit0 b g k) (g k) rfl hown rfl (by omega) w hbel hsz ?_; intro v3 w3 G3 B3; rw [← HE.out] at G3))
        go_roundw
        case rel => exact ⟨k + 1, by omega, by go_num, G3, B3⟩
        case measure => simp [intOf]; omega
    · have hks : k = s.size := by omega
      have HK : Hid (k = s.size) := hks
      clear hks
      go_wp2_with (first | ((with_reducible refine at_built .append ?_); refine wpList_push rfl (.tmp 36) (.tmp 37) 22 rfl Trym.underlying22 i5 w.heap.size _ (lit0 b g k) 39 rfl hown rfl (by omega) w hbel hsz ?_; intro v3 w3 G3 B3; rw [HK.out] at G3))
      go_ret
      exact ⟨_, rfl, G3.out, B3⟩

theorem lit_any (ao : Option Addr) (n : Nat) (f : Nat → Int) (s : ByteArray) (w : World) (hn : n ≤ 1048576) (hs : s.size ≤ 2097152) (hnil : ao = none → n = 0) (hrd : Rd w ao n f) :
    Calls Trym.prog 19 #[.slice ao n n, .string s] w fun e w' => ∃ v, e = .returned v ∧ w'.ownsRow w.heap.size 5 1 v (lit (listOf n f) (PlainAid.bt s) s.size).length (lits8 (lit (listOf n f) (PlainAid.bt s) s.size)) ∧ Below w.heap.size w w' := by
  have hl := listOf_length n f
  have hb : bcells n f = lits8 (listOf n f) := by
    rw [← bcells_list, hl]
    exact List.map_congr_left fun j hj => by rw [listOf_at (by simpa using hj)]
  have := lit_walk ao f (PlainAid.bt s) (listOf n f) s w (by omega) hs (by rw [hl]; exact hnil) (by rw [hl]; exact hrd) (by rw [hl]; exact hb) (PlainAid.get_bt s)
  rwa [hl] at this

/-- The shim: the literal lies at the head of a new row. -/
theorem zzlit_any (ao : Option Addr) (n : Nat) (f : Nat → Int) (s : ByteArray) (w : World) (hn : n ≤ 1048576) (hs : s.size ≤ 2097152) (hnil : ao = none → n = 0) (hrd : Rd w ao n f) :
    Calls Trym.prog 13 #[.slice ao n n, .string s] w fun e w' => ∃ g m cap, e = .returned (.slice (some ⟨g, 0, none⟩) m cap) ∧ m = (lit (listOf n f) (PlainAid.bt s) s.size).length ∧ m ≤ cap ∧ cap ≤ 9223372036854775807 ∧
      Rd w' (some ⟨g, 0, none⟩) m (at8 (lit (listOf n f) (PlainAid.bt s) s.size)) ∧ w.heap.size ≤ g ∧ Below w.heap.size w w' := by
  go_enter Trym.func13, Trym.ntmps13
  go_wp2_with (go_at_call 19; refine (lit_any ao n f s _ hn hs hnil hrd).mono ?_; rintro e w' ⟨v, rfl, hown, hbel⟩)
  go_ret
  have hl := lit_length (listOf n f) (PlainAid.bt s) s.size
  obtain ⟨g, cap, rfl, h1, h2, h3⟩ := own_form hown (by omega)
  exact ⟨g, _, cap, rfl, rfl, h2, h3, Rd.of_own hown, h1, hbel⟩

end Go.Proofs.Qxb6600442aMods.Own
