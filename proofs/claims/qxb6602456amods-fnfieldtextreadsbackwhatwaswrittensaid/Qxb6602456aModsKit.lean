/-
  LAWS FOR ROWS OF BYTES, over whatever program: nothing of the dump.
-/
import Derived.WalkKit
import Derived.WalkSpells
import Derived.Laws.CopyOwn
set_option linter.unusedVariables false
namespace Go.Proofs.Qxb6602456aMods.Own
open Go Go.RowKit

/-- n bytes are read at 'ao': the j-th is f j. -/
def Rd (w : World) (ao : Option Addr) (n : Nat) (f : Nat → Int) : Prop :=
  0 < n → ∃ g off, ao = some ⟨g, off, none⟩ ∧ ∀ j, j < n → w.cell? ⟨g, off + j, none⟩ = some (.int .u8 (f j))

theorem Rd.later {w w' : World} {ao : Option Addr} {n : Nat} {f : Nat → Int} (h : Rd w ao n f) (hb : Below w.heap.size w w') : Rd w' ao n f := by
  intro hn
  obtain ⟨g, off, rfl, hc⟩ := h hn
  exact ⟨g, off, rfl, fun j hj => cell_later hb (hc j hj)⟩

/-- The cells of n bytes. -/
def bcells (n : Nat) (f : Nat → Int) : List Value := (List.range n).map fun j => .int .u8 (f j)
theorem bcells_length (n : Nat) (f : Nat → Int) : (bcells n f).length = n := by simp [bcells]
theorem bcells_one (n : Nat) (f : Nat → Int) : ∀ v ∈ bcells n f, v.oneCell' = true := by
  intro v hv
  simp only [bcells, List.mem_map, List.mem_range] at hv
  obtain ⟨j, _, rfl⟩ := hv
  rfl
theorem bcells_get {n : Nat} {f : Nat → Int} {j : Nat} {v : Value} (h : (bcells n f)[j]? = some v) : j < n ∧ v = .int .u8 (f j) := by
  have hj : j < n := by
    have := (List.getElem?_eq_some_iff.1 h).1
    simpa [bcells] using this
  refine ⟨hj, ?_⟩
  simp [bcells, hj] at h
  exact h.symm
theorem bcells_at {n : Nat} {f : Nat → Int} {j : Nat} (h : j < n) : (bcells n f)[j]? = some (.int .u8 (f j)) := by simp [bcells, h]

theorem splice_whole {α : Type} (L cs : List α) (h : cs.length = L.length) : splice L 0 cs = cs := by
  simp [splice, h]

/-- A guard by shape alone: the next operation is a call of the builtin bi. -/
theorem at_built (bi : Builtin) {P : Program} {ops : Array Oper} {Q : Exit → Act → World → Prop} {d : Option Tmp} {args : Array Operand} {tys : Array TypeId} {ty : TypeId} {pos : String} {after : Array Edge} {gd : Option (Nat × Bool)} {rest : List Oper} {a : Act} {w : World}
    (h : wpList P ops Q ({ dst := d, op := Op.call { callee := Callee.builtin bi, args := args, argTypes := tys }, type := ty, pos := pos, after := after, guard := gd } :: rest) a w) :
    wpList P ops Q ({ dst := d, op := Op.call { callee := Callee.builtin bi, args := args, argTypes := tys }, type := ty, pos := pos, after := after, guard := gd } :: rest) a w := h

/-- 'make([]T, n)', T of one cell: a new block of n zero values; the world behind it is a letter. -/
theorem wpList_make_new {P : Program} (w : World) {ops : Array Oper} {rest : List Oper} {o : Oper} {a : Act} {Q : Exit → Act → World → Prop}
    (hg : o.guard = none) (l c : Operand) (t : TypeId) (hop : o.op = Op.makeSlice t l c)
    (e : TypeId) (z : Value) (bytes : Nat) (ht : P.underlying t = some (.slice e)) (hinfo : (P.info? e).map (fun i => (i.zero, i.size, i.bytes)) = some (some z, 1, bytes)) (hz1 : z.cells = #[z])
    (kl kc : IntKind) (n : Nat) (hl : a.eval l = .int kl (n : Int)) (hc : a.eval c = .int kc (n : Int)) (hbytes : bytes * n ≤ 281474976710656) (h63 : n ≤ 9223372036854775807)
    (hK : ∀ w', Hid (w'.heap[w.heap.size]? = some (.cells (List.replicate n z).toArray e (0, 0))) → Below w.heap.size w w' → w'.heap.size = w.heap.size + 1 →
      wpList P ops Q rest (a.put o.dst (.slice (some ⟨w.heap.size, 0, none⟩) n n)) w') :
    wpList P ops Q (o :: rest) a w := by
  refine wpList_plain hg fun K hK' => ?_
  obtain ⟨i, hi, hz, hs, hb⟩ := info_parts hinfo
  have hb' : (i.bytes : Int) * (n : Int) ≤ 281474976710656 := by
    have h : ((i.bytes * n : Nat) : Int) ≤ 281474976710656 := by rw [hb]; omega
    rwa [Int.natCast_mul] at h
  have hrun := run_make (P := P) w t e i z ht hi hz kl kc n n (by omega) (Int.le_refl _) hb' (by omega)
  simp only [Int.toNat_natCast, hs, Nat.mul_one, hz1] at hrun
  unfold Oper.wp
  simp [execOp, hop, hl, hc, hrun, Result.andThen]
  have e1 : madeCells #[z] n = (List.replicate n z).toArray := by
    apply Array.ext'
    rw [toList_madeCells_one]
  rw [e1]
  refine hK' _ _ (hK _ ?_ ((Below.refl _ _).alloc (Nat.le_refl _) _) (by simp))
  exact heap_alloc_new w _

/-- 'copy(c, b)' into the whole of a new block. -/
theorem wpList_copy_all {P : Program} {w : World} {ops : Array Oper} {rest : List Oper} {o : Oper} {a : Act} {Q : Exit → Act → World → Prop} (hgd : o.guard = none) (d s : Operand) (dT sT : TypeId)
    (ho : o.op = .call { callee := .builtin .copy, args := #[d, s], argTypes := #[dT, sT] }) (elem : TypeId) (hu : P.underlying dT = some (.slice elem)) (hsz : (P.info? elem).map (·.size) = some 1)
    (g n dCap sCap : Nat) (sp : Option Addr) (hd : a.eval d = .slice (some ⟨g, 0, none⟩) n dCap) (hs : a.eval s = .slice sp n sCap)
    (z : Value) (t : TypeId) (hg : Hid (w.heap[g]? = some (.cells (List.replicate n z).toArray t (0, 0)))) (f : Nat → Int) (hrd : Rd w sp n f) (B : Nat) (w0 : World) (hb : Below B w0 w) (hBg : B ≤ g)
    (h : ∀ w', Hid (w'.heap[g]? = some (.cells (bcells n f).toArray t (0, 0))) → Below B w0 w' → wpList P ops Q rest (a.put o.dst (goInt n)) w') :
    wpList P ops Q (o :: rest) a w := by
  have hlen := bcells_length n f
  refine wpList_copy_splice hgd d s dT sT ho elem hu hsz _ _ n dCap n sCap hd hs g 0 (List.replicate n z) t hg.out (bcells n f) (by rw [hlen]; exact (Nat.min_self n).symm) ?_ (by simp [hlen]) (bcells_one n f) B w0 hb hBg ?_
  · intro hp
    rw [hlen] at hp
    obtain ⟨g', off, rfl, hc⟩ := hrd hp
    refine ⟨rfl, _, rfl, fun j v hv => ?_⟩
    obtain ⟨hj, rfl⟩ := bcells_get hv
    rw [Addr.add_lit]
    exact hc j hj
  · intro w' H1 H2
    rw [hlen]
    refine h w' ?_ H2
    have := H1.out
    rwa [splice_whole _ _ (by simp [hlen])] at this

/-- A block that is known whole, read as bytes. -/
theorem block_cell {w : World} {g n : Nat} {t : TypeId} {f : Nat → Int} {fz : Nat × Nat} (h : w.heap[g]? = some (.cells (bcells n f).toArray t fz)) (j : Nat) (hj : j < n) : w.cell? ⟨g, 0 + j, none⟩ = some (.int .u8 (f j)) := by
  have hg := bcells_at (f := f) hj
  simp [World.cell?, h, hg]

/-- What the shells' 'IsRow' says of the elements, as 'Rd'. -/
theorem Rd.of_cells {w : World} {x : Addr} {len : Nat} {zs : List Int} (hl : len ≤ zs.length) (hc : ∀ i, i < zs.length → w.cell? (x.add i) = some (.int .u8 (zs.getD i 0))) : Rd w (some x) len (fun j => zs.getD j 0) := by
  intro hp
  obtain ⟨b, off, spot⟩ := x
  have hspot : spot = none := by simpa [Addr.add] using World.cell?_spot (hc 0 (by omega))
  subst hspot
  exact ⟨b, off, rfl, fun j hj => by rw [← Addr.add_lit]; exact hc j (by omega)⟩

end Go.Proofs.Qxb6602456aMods.Own
