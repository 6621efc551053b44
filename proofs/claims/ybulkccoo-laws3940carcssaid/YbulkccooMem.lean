/-
  How the program (regexProg) of 'LawS3940CArcs' lies in memory, and the closed facts on the types.
-/
import Derived.Test.YbulkccooRows
import Derived.Test.YbulkccooGraph
import Derived.WalkKit
import Derived.WalkSpells
import Derived.WalkLawsBesides
import Derived.Deep.OwnRows
import Derived.Deep.AppendLies
namespace Go.Proofs.Ybulkccoo
open Go.RowKit Gx

theorem Yba.info3 : (Yba.prog.info? 3).map (fun i => (i.zero, i.size, i.bytes)) = some (some (.int .i64 0), 1, 8) := by kernel_rfl
theorem Yba.info4 : (Yba.prog.info? 4).map (fun i => (i.zero, i.size, i.bytes)) = some (some (.bool false), 1, 1) := by kernel_rfl
theorem Yba.info21 : (Yba.prog.info? 21).map (fun i => (i.zero, i.size, i.bytes)) = some (some (.int .i32 0), 1, 4) := by kernel_rfl
theorem Yba.info67 : (Yba.prog.info? 67).map (fun i => (i.zero, i.size, i.bytes)) = some (some (.agg #[.int .i32 0, .bool false, .bool false]), 3, 8) := by kernel_rfl

/-- Where it lies: p: the struct; bi: the instructions; sb: the character sets; la, lc: the constraints' slice (g: its block). -/
structure Ly where
  p : Nat
  bi : Nat
  sb : Nat
  la : Option Addr
  lc : Nat
  g : Nat

structure PgIn (G : Gr) (Y : Ly) (w : World) : Prop where
  c0 : w.cell? ⟨Y.p, 0, none⟩ = some (.slice (some ⟨Y.bi, 0, none⟩) G.n G.n)
  c1 : w.cell? ⟨Y.p, 1, none⟩ = some (.int .i32 G.st)
  c2 : w.cell? ⟨Y.p, 2, none⟩ = some (.slice Y.la G.L Y.lc)
  la : Y.la = some ⟨Y.g, 0, none⟩ ∨ G.L = 0
  i0 : ∀ i, i < G.n → w.cell? ⟨Y.bi, i * 5, none⟩ = some (.int .u8 (G.op i))
  i1 : ∀ i, i < G.n → w.cell? ⟨Y.bi, i * 5 + 1, none⟩ = some (.bool (G.dt i))
  i2 : ∀ i, i < G.n → w.cell? ⟨Y.bi, i * 5 + 2, none⟩ = some (.int .i32 (G.ou i))
  i3 : ∀ i, i < G.n → w.cell? ⟨Y.bi, i * 5 + 3, none⟩ = some (.int .i32 (G.al i))
  i4 : ∀ i, i < G.n → w.cell? ⟨Y.bi, i * 5 + 4, none⟩ = some (.pointer (some ⟨Y.sb, G.si i * 3, none⟩))
  l0 : ∀ j, j < G.L → w.cell? ⟨Y.g, j * 3, none⟩ = some (.int .i32 (G.lk j))
  l1 : ∀ j, j < G.L → w.cell? ⟨Y.g, j * 3 + 1, none⟩ = some (.bool false)
  l2 : ∀ j, j < G.L → w.cell? ⟨Y.g, j * 3 + 2, none⟩ = some (.bool false)

theorem PgIn.keep {G : Gr} {Y : Ly} {w w' : World} (h : PgIn G Y w) (hk : ∀ a v, w.cell? a = some v → w'.cell? a = some v) : PgIn G Y w' :=
  ⟨hk _ _ h.c0, hk _ _ h.c1, hk _ _ h.c2, h.la, fun i hi => hk _ _ (h.i0 i hi), fun i hi => hk _ _ (h.i1 i hi), fun i hi => hk _ _ (h.i2 i hi), fun i hi => hk _ _ (h.i3 i hi), fun i hi => hk _ _ (h.i4 i hi),
    fun i hi => hk _ _ (h.l0 i hi), fun i hi => hk _ _ (h.l1 i hi), fun i hi => hk _ _ (h.l2 i hi)⟩

theorem keep_below {w w' : World} (hb : Below w.heap.size w w') : ∀ a v, w.cell? a = some v → w'.cell? a = some v := fun a _ h =>
  (hb.cell (World.block_lt_of_cell? w a h)).trans h

theorem PgIn.below {G : Gr} {Y : Ly} {w w' : World} (h : PgIn G Y w) (hb : Below w.heap.size w w') : PgIn G Y w' := h.keep (keep_below hb)

end Go.Proofs.Ybulkccoo
