/-
  WHAT THE LAST LAW WRITES, AS LISTS OF NUMBERS: no Go in sight, but for strings as arrays of bytes.
-/
import Derived.Test.Qxb6602456aModsKitB
set_option linter.unusedVariables false
namespace Go.Proofs.Qxb6602456aMods.Own
open Go Go.RowKit

/-- The first k texts, each as a length byte and its bytes. -/
def encS (ss : Nat → ByteArray) : Nat → List Int
  | 0 => []
  | k + 1 => encS ss k ++ (((ss k).size : Int) :: listOf (ss k).size (PlainAid.bt (ss k)))
/-- The room that the law reckons. -/
def tot (T : Nat) (ss : Nat → ByteArray) : Nat → Nat
  | 0 => T
  | k + 1 => tot T ss k + (17 + (ss k).size)
/-- In the midst of a text: its length byte and its first j bytes are written. -/
def mid (zs : List Int) (s : ByteArray) (j : Nat) : List Int := (zs ++ [(s.size : Int)]) ++ listOf j (PlainAid.bt s)

theorem mid_zero (zs : List Int) (s : ByteArray) : zs ++ [(s.size : Int)] = mid zs s 0 := by simp [mid, listOf]
theorem mid_succ (zs : List Int) (s : ByteArray) (j : Nat) : mid zs s j ++ [PlainAid.bt s j] = mid zs s (j + 1) := by
  simp [mid, listOf_succ]
theorem mid_all (ss : Nat → ByteArray) (k : Nat) : mid (encS ss k) (ss k) (ss k).size = encS ss (k + 1) := by simp [mid, encS]
theorem mid_length (zs : List Int) (s : ByteArray) (j : Nat) : (mid zs s j).length = zs.length + 1 + j := by simp [mid, listOf_length]; omega
theorem encS_length (ss : Nat → ByteArray) (k : Nat) : (encS ss (k + 1)).length = (encS ss k).length + 1 + (ss k).size := by
  rw [← mid_all, mid_length]
theorem encS_tot (T : Nat) (ss : Nat → ByteArray) (k : Nat) : (encS ss k).length + T ≤ tot T ss k := by
  induction k with
  | zero => simp [encS, tot]
  | succ k ih => rw [encS_length]; simp only [tot]; omega
theorem encS_split (ss : Nat → ByteArray) (k d : Nat) : ∃ r, encS ss (k + d) = encS ss k ++ r := by
  induction d with
  | zero => exact ⟨[], by simp⟩
  | succ d ih =>
    obtain ⟨r, hr⟩ := ih
    refine ⟨r ++ (((ss (k + d)).size : Int) :: listOf (ss (k + d)).size (PlainAid.bt (ss (k + d)))), ?_⟩
    show encS ss (k + d) ++ (((ss (k + d)).size : Int) :: listOf (ss (k + d)).size (PlainAid.bt (ss (k + d)))) = _
    rw [hr, List.append_assoc]

/-- The whole buffer. -/
def whole (ss : Nat → ByteArray) (n : Nat) (tl : List Int) : List Int := encS ss n ++ tl
theorem whole_at (ss : Nat → ByteArray) (n k : Nat) (tl : List Int) (h : k < n) :
    ∃ r, whole ss n tl = encS ss k ++ ((((ss k).size : Int) :: listOf (ss k).size (PlainAid.bt (ss k))) ++ r) := by
  obtain ⟨r, hr⟩ := encS_split ss (k + 1) (n - (k + 1))
  rw [show k + 1 + (n - (k + 1)) = n by omega] at hr
  refine ⟨r ++ tl, ?_⟩
  unfold whole
  rw [hr]
  simp [encS]
theorem whole_head (ss : Nat → ByteArray) (n k : Nat) (tl : List Int) (h : k < n) : at8 (whole ss n tl) ((encS ss k).length + 0) = (ss k).size := by
  obtain ⟨r, hr⟩ := whole_at ss n k tl h
  rw [hr, at8_right]; rfl
theorem whole_byte (ss : Nat → ByteArray) (n k : Nat) (tl : List Int) (h : k < n) (j : Nat) (hj : j < (ss k).size) : at8 (whole ss n tl) ((encS ss k).length + (1 + j)) = PlainAid.bt (ss k) j := by
  obtain ⟨r, hr⟩ := whole_at ss n k tl h
  rw [hr, at8_right]
  have e : (((ss k).size : Int) :: listOf (ss k).size (PlainAid.bt (ss k))) ++ r = [((ss k).size : Int)] ++ (listOf (ss k).size (PlainAid.bt (ss k)) ++ r) := rfl
  have e1 : at8 ([((ss k).size : Int)] ++ (listOf (ss k).size (PlainAid.bt (ss k)) ++ r)) (1 + j) = at8 (listOf (ss k).size (PlainAid.bt (ss k)) ++ r) j := at8_right [((ss k).size : Int)] _ j
  rw [e, e1, at8_left _ _ _ (by rw [listOf_length]; exact hj), listOf_at hj]
theorem whole_tail (ss : Nat → ByteArray) (n : Nat) (tl : List Int) (j : Nat) : at8 (whole ss n tl) ((encS ss n).length + j) = at8 tl j := at8_right _ _ j
theorem whole_len (ss : Nat → ByteArray) (n k : Nat) (tl : List Int) (h : k < n) : (encS ss k).length + 1 + (ss k).size + tl.length ≤ (whole ss n tl).length := by
  obtain ⟨r, hr⟩ := encS_split ss (k + 1) (n - (k + 1))
  rw [show k + 1 + (n - (k + 1)) = n by omega] at hr
  have := encS_length ss k
  unfold whole
  rw [hr]
  simp
  omega

theorem encS_le (ss : Nat → ByteArray) (n k : Nat) (h : k < n) : (encS ss k).length + 1 + (ss k).size ≤ (encS ss n).length := by
  have := whole_len ss n k [] h
  simpa [whole] using this

theorem encS_bytes (ss : Nat → ByteArray) (n : Nat) (h : ∀ k, k < n → (ss k).size ≤ 255) : ∀ z ∈ encS ss n, 0 ≤ z ∧ z ≤ 255 := by
  induction n with
  | zero => intro z hz; simp [encS] at hz
  | succ n ih =>
    intro z hz
    simp only [encS, List.mem_append, List.mem_cons] at hz
    rcases hz with hz | hz | hz
    · exact ih (fun k hk => h k (by omega)) z hz
    · have := h n (by omega)
      omega
    · simp only [listOf, List.mem_map] at hz
      obtain ⟨j, _, rfl⟩ := hz
      exact ⟨PlainAid.bt_nonneg _ _, PlainAid.bt_le _ _⟩
theorem at8_bytes (zs : List Int) (h : ∀ z ∈ zs, 0 ≤ z ∧ z ≤ 255) (j : Nat) : 0 ≤ at8 zs j ∧ at8 zs j ≤ 255 := by
  by_cases hj : j < zs.length
  · have e : at8 zs j = zs[j] := by simp [at8, hj]
    rw [e]
    exact h _ (List.getElem_mem hj)
  · have e : at8 zs j = 0 := by simp [at8, hj]
    rw [e]; omega
theorem whole_bytes (ss : Nat → ByteArray) (n T : Nat) (f : Nat → Int) (h : ∀ k, k < n → (ss k).size ≤ 255) (hf : ∀ j, j < T → 0 ≤ f j ∧ f j ≤ 255) (j : Nat) : 0 ≤ at8 (whole ss n (listOf T f)) j ∧ at8 (whole ss n (listOf T f)) j ≤ 255 := by
  refine at8_bytes _ (fun z hz => ?_) j
  rcases List.mem_append.1 hz with hz | hz
  · exact encS_bytes ss n h z hz
  · simp only [listOf, List.mem_map, List.mem_range] at hz
    obtain ⟨i, hi, rfl⟩ := hz
    exact hf i hi

/-- Two strings of the same bytes are one. -/
theorem str_eq (S s : ByteArray) (hs : S.size = s.size) (h : ∀ (j : Nat) (hj : j < S.size), ((S[j]'hj).toNat : Int) = PlainAid.bt s j) : S = s := by
  apply ByteArray.ext_getElem hs
  intro j h1 h2
  have e := h j h1
  rw [← PlainAid.get_bt s j h2] at e
  exact UInt8.toNat_inj.1 (by omega)

theorem whole_zero (ss : Nat → ByteArray) (n : Nat) (f : Nat → Int) : encS ss n = whole ss n (listOf 0 f) := by simp [whole, listOf]
theorem whole_succ (ss : Nat → ByteArray) (n : Nat) (f : Nat → Int) (j : Nat) : whole ss n (listOf j f) ++ [f j] = whole ss n (listOf (j + 1) f) := by
  unfold whole; rw [listOf_succ, List.append_assoc]
theorem whole_length (ss : Nat → ByteArray) (n : Nat) (f : Nat → Int) (j : Nat) : (whole ss n (listOf j f)).length = (encS ss n).length + j := by
  unfold whole; rw [List.length_append, listOf_length]

/-- What an owned row is, as a slice that is read. -/
theorem own_slice {w : World} {base : Nat} {v : Value} {zs : List Int} (h : w.ownsRow base 5 1 v zs.length (lits8 zs)) :
    ∃ ao m cap, v = .slice ao m cap ∧ m = zs.length ∧ m ≤ cap ∧ cap ≤ 9223372036854775807 ∧ Rd w ao m (at8 zs) := by
  rcases h.2 with ⟨hv, h0⟩ | ⟨g, cap, cur, hv, _, _, h1, h2, _⟩
  · exact ⟨none, 0, 0, hv, h0.symm, Nat.le_refl _, by omega, fun hp => absurd hp (by omega)⟩
  · subst hv
    exact ⟨_, _, cap, rfl, rfl, h1, by unfold maxLen at h2; exact h2, Rd.of_own h⟩

/-- What is left to be read behind the first k texts. -/
def left (ss : Nat → ByteArray) (n : Nat) (tl : List Int) (k : Nat) : Nat → Int := fun j => at8 (whole ss n tl) ((encS ss k).length + j)
theorem left_zero (ss : Nat → ByteArray) (n : Nat) (tl : List Int) : left ss n tl 0 = at8 (whole ss n tl) := by funext j; simp [left, encS]
theorem left_head {ss : Nat → ByteArray} {n : Nat} {tl : List Int} {k : Nat} (h : k < n) : left ss n tl k 0 = (ss k).size := whole_head ss n k tl h
theorem left_byte {ss : Nat → ByteArray} {n : Nat} {tl : List Int} {k : Nat} (h : k < n) (j : Nat) (hj : j < (ss k).size) : left ss n tl k (1 + j) = PlainAid.bt (ss k) j := whole_byte ss n k tl h j hj
theorem left_next (ss : Nat → ByteArray) (n : Nat) (tl : List Int) (k j : Nat) : left ss n tl k (1 + (ss k).size + j) = left ss n tl (k + 1) j := by
  unfold left; rw [encS_length]; congr 1; omega
theorem left_last (ss : Nat → ByteArray) (n T : Nat) (f : Nat → Int) (j : Nat) (hj : j < T) : left ss n (listOf T f) n j = f j := by
  unfold left; rw [whole_tail, listOf_at hj]

end Go.Proofs.Qxb6602456aMods.Own
