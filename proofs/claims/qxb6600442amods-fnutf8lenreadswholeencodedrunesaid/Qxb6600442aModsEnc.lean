/-
  THE WALK OF b1EncodeRune.
-/
import Derived.Test.Qxb6600442aModsProg
import Derived.Test.Qxb6600442aModsEncPlain
import Derived.WalkKit
import Derived.WalkSpells
set_option linter.unusedVariables false
namespace Go.Proofs.Qxb6600442aMods.Own
open Go Go.RowKit Go.Proofs.Qxb6600442aMods.Plain

theorem enc_end (a b c d : Int) (k : Nat) (h : Enc (four a b c d) k) {w w' : World} (hb : Below w.heap.size w w') :
    ∃ (e : Nat → Int) (k' : Nat), Ending.returned (.tuple #[.agg #[.int .u8 a, .int .u8 b, .int .u8 c, .int .u8 d], .int .i64 k]) = .returned (.tuple #[.agg #[.int .u8 (e 0), .int .u8 (e 1), .int .u8 (e 2), .int .u8 (e 3)], .int .i64 k']) ∧ Enc e k' ∧ Below w.heap.size w w' :=
  ⟨four a b c d, k, rfl, h, hb⟩

theorem below2 (w : World) (o p : Obj) : Below w.heap.size w ((w.alloc o).alloc p) := ((Below.refl _ _).alloc (Nat.le_refl _) _).alloc (by simp) _

set_option maxHeartbeats 800000 in
theorem enc_any (r : Int) (w : World) (h0 : 0 ≤ r) (h1 : r ≤ 1114111) :
    Calls Trym.prog 10 #[.int .i32 r] w fun e w' => ∃ (f : Nat → Int) (k : Nat), e = .returned (.tuple #[.agg #[.int .u8 (f 0), .int .u8 (f 1), .int .u8 (f 2), .int .u8 (f 3)], .int .i64 k]) ∧ Enc f k ∧ Below w.heap.size w w' := by
  go_enter Trym.func10, Trym.ntmps10
  go_wp2
  · refine bodyPost_ret (v := .tuple #[.agg #[.int .u8 r, .int .u8 0, .int .u8 0, .int .u8 0], .int .i64 1]) (by simp [results, Trym.results10, go_sem]) rfl ?_
    exact enc_end r 0 0 0 1 (enc1 _ _ _ _ (by omega)) (below2 _ _ _)
  · refine bodyPost_ret (v := .tuple #[.agg #[.int .u8 (bits BinOp.or IntKind.u32 192 (r / 64) % 256), .int .u8 (bits BinOp.or IntKind.u32 128 (bits BinOp.and IntKind.u32 r 63) % 256), .int .u8 0, .int .u8 0], .int .i64 2]) (by simp [results, Trym.results10, go_sem]) rfl ?_
    exact enc_end _ _ _ _ 2 (enc2 _ _ _ _ (lead_2 _ (by omega) (by omega)) (cont_of _ (by omega) (by omega))) (below2 _ _ _)
  · refine bodyPost_ret (v := .tuple #[.agg #[.int .u8 (bits BinOp.or IntKind.u32 224 (r / 4096) % 256), .int .u8 (bits BinOp.or IntKind.u32 128 (bits BinOp.and IntKind.u32 (r / 64) 63) % 256), .int .u8 (bits BinOp.or IntKind.u32 128 (bits BinOp.and IntKind.u32 r 63) % 256), .int .u8 0], .int .i64 3]) (by simp [results, Trym.results10, go_sem]) rfl ?_
    exact enc_end _ _ _ _ 3 (enc3 _ _ _ _ (lead_3 _ (by omega) (by omega)) (cont_of _ (by omega) (by omega)) (cont_of _ (by omega) (by omega))) (below2 _ _ _)
  · refine bodyPost_ret (v := .tuple #[.agg #[.int .u8 (bits BinOp.or IntKind.u32 240 (r / 262144) % 256), .int .u8 (bits BinOp.or IntKind.u32 128 (bits BinOp.and IntKind.u32 (r / 4096) 63) % 256), .int .u8 (bits BinOp.or IntKind.u32 128 (bits BinOp.and IntKind.u32 (r / 64) 63) % 256), .int .u8 (bits BinOp.or IntKind.u32 128 (bits BinOp.and IntKind.u32 r 63) % 256)], .int .i64 4]) (by simp [results, Trym.results10, go_sem]) rfl ?_
    exact enc_end _ _ _ _ 4 (enc4 _ _ _ _ (lead_4 _ (by omega) (by omega)) (cont_of _ (by omega) (by omega)) (cont_of _ (by omega) (by omega)) (cont_of _ (by omega) (by omega))) (below2 _ _ _)

end Go.Proofs.Qxb6600442aMods.Own
