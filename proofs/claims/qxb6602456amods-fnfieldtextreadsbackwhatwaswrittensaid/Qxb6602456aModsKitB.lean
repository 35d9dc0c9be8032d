/-
  MORE LAWS FOR ROWS OF BYTES, over whatever program: nothing of the dump: a byte appended to a row of the call's own; a string's bytes appended to a row without room.
-/
import Derived.WalkKit
import Derived.WalkSpells
import Derived.PlainAid
import Derived.Deep.AppendSrc
import Derived.Test.Qxb6602456aModsKit
set_option linter.unusedVariables false
namespace Go.Proofs.Qxb6602456aMods.Own
open Go Go.RowKit

/-- Numbers as cells of bytes. -/
def lits8 (zs : List Int) : List Value := zs.map (Value.int .u8)
theorem lits8_length (zs : List Int) : (lits8 zs).length = zs.length := by simp [lits8]
theorem lits8_append (a b : List Int) : lits8 (a ++ b) = lits8 a ++ lits8 b := by simp [lits8]
theorem lits8_one (zs : List Int) : ∀ u ∈ lits8 zs, u.oneCell' = true := ints_oneCell .u8 zs
/-- Byte j of a list; 0 behind its end. -/
def at8 (zs : List Int) (j : Nat) : Int := zs.getD j 0
theorem lits8_get {zs : List Int} {j : Nat} {u : Value} (h : (lits8 zs)[j]? = some u) : j < zs.length ∧ u = .int .u8 (at8 zs j) := by
  have hj : j < zs.length := by
    have := (List.getElem?_eq_some_iff.1 h).1
    simpa [lits8] using this
  refine ⟨hj, ?_⟩
  simp [lits8, hj] at h
  simp [at8, hj, ← h]
theorem lits8_at {zs : List Int} {j : Nat} (h : j < zs.length) : (lits8 zs)[j]? = some (.int .u8 (at8 zs j)) := by simp [lits8, at8, h]
theorem at8_left (a b : List Int) (j : Nat) (h : j < a.length) : at8 (a ++ b) j = at8 a j := by
  simp [at8, List.getElem?_append_left h]
theorem at8_right (a b : List Int) (j : Nat) : at8 (a ++ b) (a.length + j) = at8 b j := by
  simp [at8, List.getElem?_append_right]

theorem bcells_list (zs : List Int) : bcells zs.length (at8 zs) = lits8 zs := by
  apply List.ext_getElem?
  intro j
  by_cases h : j < zs.length
  · rw [bcells_at h, lits8_at h]
  · rw [List.getElem?_eq_none (by rw [bcells_length]; omega), List.getElem?_eq_none (by rw [lits8_length]; omega)]

/-- The first n bytes of f as a list. -/
def listOf (n : Nat) (f : Nat → Int) : List Int := (List.range n).map f
theorem listOf_length (n : Nat) (f : Nat → Int) : (listOf n f).length = n := by simp [listOf]
theorem listOf_at {n : Nat} {f : Nat → Int} {j : Nat} (h : j < n) : at8 (listOf n f) j = f j := by simp [listOf, at8, h]
theorem listOf_succ (n : Nat) (f : Nat → Int) : listOf (n + 1) f = listOf n f ++ [f n] := by simp [listOf, List.range_succ]

theorem Rd.congr {w : World} {ao : Option Addr} {n : Nat} {f g : Nat → Int} (h : Rd w ao n f) (e : ∀ j, j < n → f j = g j) : Rd w ao n g := by
  intro hn
  obtain ⟨b, off, rfl, hc⟩ := h hn
  exact ⟨b, off, rfl, fun j hj => by rw [← e j hj]; exact hc j hj⟩

/-- An owned row of bytes, read. -/
theorem Rd.of_own {w : World} {base g m cap : Nat} {zs : List Int} (h : w.ownsRow base 5 1 (.slice (some ⟨g, 0, none⟩) m cap) m (lits8 zs)) : Rd w (some ⟨g, 0, none⟩) m (at8 zs) := by
  intro hp
  refine ⟨g, 0, rfl, fun j hj => ?_⟩
  have hl : (lits8 zs).length = m * 1 := h.1
  rw [lits8_length] at hl
  rw [Nat.zero_add, h.cellAt j (by omega), lits8_at (by omega)]

/-- The shape of an owned row that is not empty. -/
theorem own_form {w : World} {base e size : Nat} {v : Value} {n : Nat} {xs : List Value} (h : w.ownsRow base e size v n xs) (hp : 0 < n) :
    ∃ g cap, v = .slice (some ⟨g, 0, none⟩) n cap ∧ base ≤ g ∧ n ≤ cap ∧ cap ≤ 9223372036854775807 := by
  rcases h.2 with ⟨_, h0⟩ | ⟨g, cap, cur, hv, hg, _, h1, h2, _⟩
  · omega
  · exact ⟨g, cap, hv, hg, h1, by unfold maxLen at h2; exact h2⟩

/-- 'append(v, c)', v a row of the call's own: the element lies in a new block first. -/
theorem wpList_push {P : Program} {wr : World} {ops : Array Oper} {rest : List Oper} {o : Oper} {a : Act} {Q : Exit → Act → World → Prop} (hgd : o.guard = none) (s x : Operand) (t : TypeId)
    (ho : o.op = .call { callee := .builtin .append, args := #[s, x], argTypes := #[t, t] }) (ht : P.underlying t = some (.slice 5))
    (hinfo : (P.info? 5).map (fun i => (i.zero, i.size, i.bytes)) = some (some (.int .u8 0), 1, 1))
    (base : Nat) (v : Value) (zs : List Int) (c : Int) (hs : a.eval s = v) (hown : Hid (wr.ownsRow base 5 1 v zs.length (lits8 zs))) (hx : a.eval x = .slice (some ⟨wr.heap.size, 0, none⟩) 1 1)
    (hlen : zs.length + 1 ≤ 140737488355328) (w0 : World) (hb : Below base w0 wr) (hbase : base ≤ wr.heap.size)
    (h : ∀ v' w', Hid (w'.ownsRow base 5 1 v' (zs ++ [c]).length (lits8 (zs ++ [c]))) → Below base w0 w' → wpList P ops Q rest (a.put o.dst v') w') :
    wpList P ops Q (o :: rest) a (wr.alloc (.cells #[.int .u8 c] 5)) := by
  obtain ⟨i, hi, hz0, hz1, hz2⟩ := info_parts hinfo
  have hb1 : Below base w0 (wr.alloc (.cells #[.int .u8 c] 5)) := hb.alloc hbase _
  refine wpList_append_own _ hgd s x t ho base 5 i (.int .u8 0) 1 1 ht hi hz0 hz1 hz2 rfl (by decide) v zs.length (lits8 zs) hs (hown.out.alloc _) ⟨wr.heap.size, 0, none⟩ 1 1 [.int .u8 c] hx rfl ?_ ?_ ?_ ?_ ?_ ?_
  · intro j u hj
    match j, hj with
    | 0, hj => simp at hj; subst hj; simp [Addr.add]
  · intro u hu; simp at hu; subst hu; rfl
  · unfold maxLen; omega
  · omega
  · simp; omega
  · intro v' w' h1 h2 _
    refine h v' w' ?_ (hb1.grown h2 (by simp; omega) (fun k hk => ((hown.out.lt k hk).1)))
    show w'.ownsRow base 5 1 v' (zs ++ [c]).length (lits8 (zs ++ [c]))
    rw [lits8_append, List.length_append]
    exact h1

/-- 'append(b, "..."...)', b without room: a new row. -/
theorem wpList_append_str_grows {P : Program} {w : World} {ops : Array Oper} {rest : List Oper} {o : Oper} {a : Act} {Q : Exit → Act → World → Prop} (hgd : o.guard = none) (s x : Operand) (t tx : TypeId)
    (ho : o.op = .call { callee := .builtin .append, args := #[s, x], argTypes := #[t, tx] }) (ht : P.underlying t = some (.slice 5)) (htx : P.underlying tx = some .string)
    (hinfo : (P.info? 5).map (fun i => (i.zero, i.size, i.bytes)) = some (some (.int .u8 0), 1, 1))
    (ao : Option Addr) (n : Nat) (f : Nat → Int) (str : ByteArray) (hs : a.eval s = .slice ao n n) (hx : a.eval x = .string str) (hrd : Rd w ao n f) (hnil : ao = none → n = 0) (hpos : 0 < str.size) (hlen : n + str.size ≤ 140737488355328)
    (h : ∀ v' w', Hid (w'.ownsRow w.heap.size 5 1 v' (n + str.size) (bcells n f ++ byteCells str)) → Below w.heap.size w w' → wpList P ops Q rest (a.put o.dst v') w') :
    wpList P ops Q (o :: rest) a w := by
  refine wpList_plain hgd fun K hK => ?_
  obtain ⟨i, hi, hz0, hz1, hz2⟩ := info_parts hinfo
  have hbl := bcells_length n f
  have hyl := byteCells_length str
  have hold : (Builtin.firstCells i.size n (.slice ao n n)).run P w.drew = .ok (bcells n f).toArray w.drew := by
    rw [hz1]
    cases ao with
    | none =>
      obtain rfl := hnil rfl
      exact run_firstCells_none w.drew 1 0 0 0
    | some b =>
      refine run_firstCells_some w.drew 1 n b n n (bcells n f) (by rw [hbl, Nat.mul_one]) ?_
      intro j u hu
      obtain ⟨hj, rfl⟩ := bcells_get hu
      obtain ⟨g, off, e, hc⟩ := hrd (by omega)
      obtain rfl := Option.some.inj e
      rw [Addr.add_lit]
      simpa using hc j hj
  have hsrc : Src P i.size tx (.string str) str.size (byteCells str) w := by rw [hz1]; exact Src.ofString w htx str
  have hrun := run_append_grow_src (P := P) w t tx o.type 5 i (.int .u8 0) ht hi hz0 ao n n (bcells n f) hold (.string str) str.size (byteCells str) hsrc (by omega) (by omega) (growslice_fits (by omega) (by rw [hz2]; omega))
  have hge := grownCap_ge w (n + str.size) n 5
  have hcm : grownCap w (n + str.size) n 5 ≤ maxLen := grownCap_le_maxLen w (n + str.size) n 5 (by unfold maxLen; omega)
  unfold Oper.wp
  simp only [execOp, ho, resolve, invoke, builtin, Sem.run_bind, Sem.run_pure, Result.andThen_ok, List.map_toArray, List.map_cons, List.map_nil, hs, hx, hrun]
  refine hK _ _ (h _ _ ?_ ?_)
  · refine ⟨?_, .inr ⟨w.heap.size, _, _, rfl, Nat.le_refl _, heap_alloc_new w.drew _, hge, hcm, ?_, ?_⟩⟩
    · rw [List.length_append, hbl, hyl]; omega
    · simp only [Array.size_append, List.size_toArray, List.length_append, size_zeroCells, hbl, hyl]
      show n + str.size + (grownCap w (n + str.size) n 5 - (n + str.size)) * 1 = grownCap w (n + str.size) n 5 * 1
      omega
    · simp only [Array.toList_append]
      rw [List.take_left' (by simp [hbl, hyl])]
  · exact ((Below.refl _ _).drew).alloc (by simp) _

/-- A string's bytes, as the walk names them. -/
theorem byteCells_bt (str : ByteArray) : byteCells str = bcells str.size (PlainAid.bt str) := by
  apply List.ext_getElem?
  intro j
  by_cases h : j < str.size
  · rw [bcells_at h]
    have hd : j < str.data.size := h
    simp only [byteCells, List.getElem?_map, Array.getElem?_toList, Array.getElem?_eq_getElem hd, Option.map_some]
    rw [← PlainAid.get_bt str j h]
    rfl
  · rw [List.getElem?_eq_none (by rw [byteCells_length]; omega), List.getElem?_eq_none (by rw [bcells_length]; omega)]

end Go.Proofs.Qxb6602456aMods.Own
