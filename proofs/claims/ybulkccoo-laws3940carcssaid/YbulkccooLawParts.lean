import Derived.Test.YbulkccooModel
import Derived.Deep.CutRange
import Derived.Deep.DeepCutAuto
namespace Go.Proofs.Ybulkccoo
open Go.RowKit Gx

/-! ### the instructions' row -/
def icell (G : Gr) (sb i r : Nat) : Value :=
  if r = 0 then .int .u8 (G.op i) else if r = 1 then .bool (G.dt i) else if r = 2 then .int .i32 (G.ou i) else if r = 3 then .int .i32 (G.al i) else .pointer (some ⟨sb, G.si i * 3, none⟩)

def irow (G : Gr) (sb : Nat) (z : Nat → Value) (k c : Nat) : Value := if c < k * 5 then icell G sb (c / 5) (c % 5) else z c

theorem irow_step (G : Gr) (sb : Nat) (z : Nat → Value) (k c : Nat) {v0 v1 v2 v3 v4 : Value} (h0 : v0 = icell G sb k 0) (h1 : v1 = icell G sb k 1) (h2 : v2 = icell G sb k 2) (h3 : v3 = icell G sb k 3) (h4 : v4 = icell G sb k 4) :
    (if c = k * 5 + 4 then v4 else if c = k * 5 + 3 then v3 else if c = k * 5 + 2 then v2 else if c = k * 5 + 1 then v1 else if c = k * 5 then v0 else irow G sb z k c) = irow G sb z (k + 1) c := by
  unfold irow
  by_cases e4 : c = k * 5 + 4
  · rw [if_pos e4, if_pos (by omega), show c / 5 = k by omega, show c % 5 = 4 by omega, h4]
  rw [if_neg e4]
  by_cases e3 : c = k * 5 + 3
  · rw [if_pos e3, if_pos (by omega), show c / 5 = k by omega, show c % 5 = 3 by omega, h3]
  rw [if_neg e3]
  by_cases e2 : c = k * 5 + 2
  · rw [if_pos e2, if_pos (by omega), show c / 5 = k by omega, show c % 5 = 2 by omega, h2]
  rw [if_neg e2]
  by_cases e1 : c = k * 5 + 1
  · rw [if_pos e1, if_pos (by omega), show c / 5 = k by omega, show c % 5 = 1 by omega, h1]
  rw [if_neg e1]
  by_cases e0 : c = k * 5
  · rw [if_pos e0, if_pos (by omega), show c / 5 = k by omega, show c % 5 = 0 by omega, h0]
  rw [if_neg e0]
  by_cases h : c < k * 5
  · rw [if_pos h, if_pos (by omega)]
  · rw [if_neg h, if_neg (by omega)]

/-! ### a row of int's filled from the front -/
def frow (F : Nat → Int) (k i : Nat) : Value := .int .i64 (if i < k then F i else 0)
theorem frow_hit (F : Nat → Int) (k : Nat) {x : Int} (hx : x = F k) (i : Nat) : (if i = k then Value.int .i64 x else frow F k i) = frow F (k + 1) i := by
  unfold frow
  by_cases e : i = k
  · rw [if_pos e, if_pos (by omega), hx, e]
  · rw [if_neg e]
    by_cases h : i < k
    · rw [if_pos h, if_pos (by omega)]
    · rw [if_neg h, if_neg (by omega)]

theorem Yba.info41' : (Yba.prog.info? 41).map (fun i => (i.zero, i.size, i.bytes)) = some (some (.agg #[.int .u64 0, .int .u64 0, .slice none 0 0]), 3, 40) := by kernel_rfl
theorem Yba.info65 : (Yba.prog.info? 65).map (fun i => (i.zero, i.size, i.bytes)) = some (some (.agg #[.int .u8 0, .bool false, .int .i32 0, .int .i32 0, .pointer none]), 5, 24) := by kernel_rfl

theorem run_make_any (t e : TypeId) (z : Value) (size bytes : Nat) (ht : Yba.prog.underlying t = some (.slice e)) (hinfo : (Yba.prog.info? e).map (fun i => (i.zero, i.size, i.bytes)) = some (some z, size, bytes)) (n : Nat)
    (hbytes : bytes * n ≤ 281474976710656) (h63 : n ≤ 9223372036854775807) (w : World) :
    (Instr.makeSlice t (.int .i64 (n : Int)) (.int .i64 (n : Int))).run Yba.prog w = .ok (.slice (some ⟨w.heap.size, 0, none⟩) n n) (w.alloc (.cells (madeCells z.cells (n * size)) e)) := by
  obtain ⟨i, hi, hz0, hz1, hz2⟩ := info_parts hinfo
  have hb' : (i.bytes : Int) * (n : Int) ≤ 281474976710656 := by
    have h : ((i.bytes * n : Nat) : Int) ≤ 281474976710656 := by rw [hz2]; omega
    rwa [Int.natCast_mul] at h
  have hr := run_make (P := Yba.prog) w t e i z ht hi hz0 .i64 .i64 n n (by omega) (Int.le_refl _) hb' (by omega)
  simp only [Int.toNat_natCast, hz1] at hr
  exact hr

theorem run_makeMap_hint (n : Int) (w : World) : (Instr.makeMap 53 (some (.int .i64 n))).run Yba.prog w = .ok (.map (some w.heap.size)) (w.alloc (.map #[] 0)) := by
  have ht : Yba.prog.underlying 53 = some (.map 54 3) := Yba.underlying53
  simp [Instr.makeMap, run_underlying ht, asInt, newObj]
  rfl

theorem below_setBlock {B b : Nat} {a w : World} {es : Array MapEntry} {c : Nat} (h : Below B a w) (hm : w.heap[b]? = some (.map es c)) (hb : B ≤ b) (o : Obj) : Below B a (ChangeMaps.setBlock w b o) :=
  h.trans ⟨rfl, rfl, rfl, by simp [ChangeMaps.setBlock], fun k hk => ChangeMaps.heap_setBlock_other hm o (by omega)⟩

/-- The first loop: the weights' row and the table of counts, j of them laid. -/
structure Tab (w wr : World) (m : Nat) (W : Nat → Int) (j : Nat) : Prop where
  row : wr.rowIs (w.heap.size + 1) 3 m (frow W j)
  sets : ∃ c, wr.heap[w.heap.size]? = some (.cells c 41 (0, 0))
  map : wr.heap[w.heap.size + 1 + 1]? = some (.map (mkEs w.heap.size W j) j)
  below : Below w.heap.size w wr

theorem Tab.start (w : World) (m : Nat) (W : Nat → Int) (c : Array Value) : Tab w (((w.alloc (.cells c 41)).alloc (.cells (madeCells #[.int .i64 0] m) 3)).alloc (.map #[] 0)) m W 0 := by
  refine ⟨?_, ⟨c, ?_⟩, ?_, ?_⟩
  · have h := World.rowIs_made (w.alloc (.cells c 41)) (.int .i64 0) m 3
    rw [World.size_alloc] at h
    exact (h.congr (g := frow W 0) (fun i _ => by simp [frow])).alloc _
  · rw [Below.heap_alloc _ _ _ (by simp; omega), Below.heap_alloc _ _ _ (by simp)]
    exact heap_alloc_new w _
  · have h := heap_alloc_new ((w.alloc (.cells c 41)).alloc (.cells (madeCells #[.int .i64 0] m) 3)) (.map #[] 0)
    simp only [World.size_alloc] at h
    rw [h]
    simp [mkEs]
  · exact (((Below.refl _ _).alloc (Nat.le_refl _) _).alloc (by simp) _).alloc (by simp; omega) _

theorem Tab.run {w wr : World} {m j : Nat} {W : Nat → Int} (h : Tab w wr m W j) :
    (Instr.mapUpdate 53 (.map (some (w.heap.size + 1 + 1))) (.pointer (some ⟨w.heap.size, j * 3, none⟩)) (.int .i64 (W j))).run Yba.prog (wr.setCell ⟨w.heap.size + 1, j, none⟩ (.int .i64 (W j))) =
      .ok () (ChangeMaps.setBlock (wr.setCell ⟨w.heap.size + 1, j, none⟩ (.int .i64 (W j))) (w.heap.size + 1 + 1) (.map (mkEs w.heap.size W (j + 1)) (j + 1))) := by
  obtain ⟨c, hc⟩ := h.sets
  exact run_mapUpdate_at (wr.setCell ⟨w.heap.size + 1, j, none⟩ (.int .i64 (W j))) w.heap.size (w.heap.size + 1 + 1) j W (c := c) (t := 41) (by rw [Below.heap_setCell _ _ _ _ (by simp)]; exact hc) (by rw [Below.heap_setCell _ _ _ _ (by simp)]; exact h.map)

theorem Tab.step {w wr : World} {m j : Nat} {W : Nat → Int} (h : Tab w wr m W j) {x : Int} (hx : x = W j) :
    Tab w (ChangeMaps.setBlock (wr.setCell ⟨w.heap.size + 1, j, none⟩ (.int .i64 x)) (w.heap.size + 1 + 1) (.map (mkEs w.heap.size W (j + 1)) (j + 1))) m W (j + 1) := by
  obtain ⟨c, hc⟩ := h.sets
  have hm : (wr.setCell ⟨w.heap.size + 1, j, none⟩ (.int .i64 x)).heap[w.heap.size + 1 + 1]? = some (.map (mkEs w.heap.size W j) j) := by rw [Below.heap_setCell _ _ _ _ (by simp)]; exact h.map
  refine ⟨?_, ⟨c, ?_⟩, ChangeMaps.heap_setBlock_same hm _, below_setBlock (h.below.setCell (by simp) _) hm (by omega) _⟩
  · exact ((h.row.set j _).congr (fun i _ => frow_hit W j hx i)).of_block (ChangeMaps.heap_setBlock_other hm _ (by omega))
  · rw [ChangeMaps.heap_setBlock_other hm _ (by omega), Below.heap_setCell _ _ _ _ (by simp)]
    exact hc

/-- The second loop: the instructions, i of them laid. -/
structure Ins (w1 wr : World) (G : Gr) (sb : Nat) (z : Nat → Value) (i : Nat) : Prop where
  prog : wr.heap[w1.heap.size]? = some (.cells #[.slice (some ⟨w1.heap.size + 1, 0, none⟩) G.n G.n, .int .i32 G.st, .slice none 0 0, .pointer none] 60 (0, 0))
  row : wr.rowIs (w1.heap.size + 1) 65 (G.n * 5) (irow G sb z i)
  idx : wr.rowIs (w1.heap.size + 1 + 1) 3 G.n (frow (fun i => (G.si i : Nat)) i)
  below : Below w1.heap.size w1 wr

theorem rowIs_any (w : World) (c : Array Value) (t : TypeId) : (w.alloc (.cells c t)).rowIs w.heap.size t c.size (fun i => c[i]?.getD .nilIface) :=
  World.rowIs_alloc w c t _ (fun i hi => by rw [Array.getElem?_eq_getElem hi]; simp)

theorem Ins.start (w1 : World) (G : Gr) (sb : Nat) (zs : Array Value) :
    ∃ z, Ins w1 (((w1.alloc (.cells #[.slice (some ⟨w1.heap.size + 1, 0, none⟩) G.n G.n, .int .i32 G.st, .slice none 0 0, .pointer none] 60)).alloc (.cells (madeCells zs (G.n * 5)) 65)).alloc (.cells (madeCells #[.int .i64 0] G.n) 3)) G sb z 0 := by
  refine ⟨fun i => (madeCells zs (G.n * 5))[i]?.getD .nilIface, ?_, ?_, ?_, ?_⟩
  · rw [Below.heap_alloc _ _ _ (by simp; omega), Below.heap_alloc _ _ _ (by simp)]
    exact heap_alloc_new w1 _
  · have h := rowIs_any (w1.alloc (.cells #[.slice (some ⟨w1.heap.size + 1, 0, none⟩) G.n G.n, .int .i32 G.st, .slice none 0 0, .pointer none] 60)) (madeCells zs (G.n * 5)) 65
    rw [World.size_alloc, size_madeCells] at h
    exact (h.congr (fun i _ => by simp [irow])).alloc _
  · have h := World.rowIs_made ((w1.alloc (.cells #[.slice (some ⟨w1.heap.size + 1, 0, none⟩) G.n G.n, .int .i32 G.st, .slice none 0 0, .pointer none] 60)).alloc (.cells (madeCells zs (G.n * 5)) 65)) (.int .i64 0) G.n 3
    simp only [World.size_alloc] at h
    exact h.congr (fun i _ => by simp [frow])
  · exact (((Below.refl _ _).alloc (Nat.le_refl _) _).alloc (by simp) _).alloc (by simp; omega) _

theorem Ins.drew {w1 wr : World} {G : Gr} {sb : Nat} {z : Nat → Value} {i : Nat} (h : Ins w1 wr G sb z i) : Ins w1 wr.drew G sb z i := ⟨h.prog, h.row.drew, h.idx.drew, h.below.drew⟩

theorem Ins.store {w1 Wx : World} {G : Gr} {sb k : Nat} {z : Nat → Value} {x0 x2 x3 : Int}
    (h1 : Wx.heap[w1.heap.size]? = some (.cells #[.slice (some ⟨w1.heap.size + 1, 0, none⟩) G.n G.n, .int .i32 G.st, .slice none 0 0, .pointer none] 60 (0, 0)))
    (h2 : Wx.rowIs (w1.heap.size + 1) 65 (G.n * 5) (irow G sb z k)) (h3 : Wx.rowIs (w1.heap.size + 1 + 1) 3 G.n (frow (fun i => (G.si i : Nat)) (k + 1))) (h4 : Below w1.heap.size w1 Wx)
    (e0 : x0 = G.op k) (e2 : x2 = G.ou k) (e3 : x3 = G.al k) :
    Ins w1 (((((Wx.setCell ⟨w1.heap.size + 1, k * 5, none⟩ (.int .u8 x0)).setCell ⟨w1.heap.size + 1, k * 5 + 1, none⟩ (.bool (G.dt k))).setCell ⟨w1.heap.size + 1, k * 5 + 2, none⟩ (.int .i32 x2)).setCell ⟨w1.heap.size + 1, k * 5 + 3, none⟩ (.int .i32 x3)).setCell ⟨w1.heap.size + 1, k * 5 + 4, none⟩ (.pointer (some ⟨sb, G.si k * 3, none⟩))) G sb z (k + 1) := by
  subst e0 e2 e3
  have e : ∀ (W : World) (o : Nat) (v : Value), (W.setCell ⟨w1.heap.size + 1, o, none⟩ v).heap[w1.heap.size]? = W.heap[w1.heap.size]? := fun W o v => Below.heap_setCell W _ v _ (by simp)
  have r := (((((h2.set (k * 5) (.int .u8 (G.op k))).set (k * 5 + 1) (.bool (G.dt k))).set (k * 5 + 2) (.int .i32 (G.ou k))).set (k * 5 + 3) (.int .i32 (G.al k))).set (k * 5 + 4) (.pointer (some ⟨sb, G.si k * 3, none⟩)))
  refine ⟨?_, ?_, ?_, ?_⟩
  · rw [e, e, e, e, e]
    exact h1
  · exact r.congr (fun c _ => irow_step G sb z k c (by simp [icell]) (by simp [icell]) (by simp [icell]) (by simp [icell]) (by simp [icell]))
  · exact ((((h3.setOther (by simp) _).setOther (by simp) _).setOther (by simp) _).setOther (by simp) _).setOther (by simp) _
  · exact ((((h4.setCell (by simp) _).setCell (by simp) _).setCell (by simp) _).setCell (by simp) _).setCell (by simp) _

/-- What the law's arguments hold, and how the graph comes of them. -/
structure LawIn (G : Gr) (m : Nat) (W : Nat → Int) (w : World) (bI oI : Nat) (start : Int) (la : Option Addr) (bL oL : Nat) (wa : Option Addr) (bW oW lw : Nat) (xop xou xal xse xlk : Nat → Int) : Prop where
  ok : G.Ok
  m0 : (lw = 0 ∧ m = 1) ∨ (0 < lw ∧ m = lw)
  m1 : lw ≤ 256
  wb : ∀ i, 0 ≤ W i ∧ W i ≤ 255
  w1 : lw = 0 → ∀ i, W i = 1
  si : ∀ i, G.si i < m
  st0 : 0 ≤ start ∧ start ≤ 65535
  st : start % G.n = G.st
  i0 : ∀ i, i < G.n → w.cell? ⟨bI, oI + i * 5, none⟩ = some (.int .u8 (xop i))
  i1 : ∀ i, i < G.n → w.cell? ⟨bI, oI + i * 5 + 1, none⟩ = some (.bool (G.dt i))
  i2 : ∀ i, i < G.n → w.cell? ⟨bI, oI + i * 5 + 2, none⟩ = some (.int .u16 (xou i))
  i3 : ∀ i, i < G.n → w.cell? ⟨bI, oI + i * 5 + 3, none⟩ = some (.int .u16 (xal i))
  i4 : ∀ i, i < G.n → w.cell? ⟨bI, oI + i * 5 + 4, none⟩ = some (.int .u8 (xse i))
  b0 : ∀ i, i < G.n → 0 ≤ xop i ∧ xop i ≤ 255
  b2 : ∀ i, i < G.n → 0 ≤ xou i ∧ xou i ≤ 65535
  b3 : ∀ i, i < G.n → 0 ≤ xal i ∧ xal i ≤ 65535
  b4 : ∀ i, i < G.n → 0 ≤ xse i ∧ xse i ≤ 255
  e0 : ∀ i, i < G.n → xop i % 5 = G.op i
  e2 : ∀ i, i < G.n → xou i % G.n = G.ou i
  e3 : ∀ i, i < G.n → xal i % G.n = G.al i
  e4 : ∀ i, i < G.n → xse i % m = G.si i
  la : la = some ⟨bL, oL, none⟩ ∨ G.L = 0
  l0 : ∀ j, j < G.L → w.cell? ⟨bL, oL + j, none⟩ = some (.int .u16 (xlk j))
  lb : ∀ j, j < G.L → 0 ≤ xlk j ∧ xlk j ≤ 65535
  le : ∀ j, j < G.L → xlk j % G.n = G.lk j
  wa : wa = some ⟨bW, oW, none⟩ ∨ lw = 0
  wc : ∀ j, j < lw → w.cell? ⟨bW, oW + j, none⟩ = some (.int .u8 (W j))

/-- The third loop: the constraints, j of them laid. -/
def lcells (G : Gr) : Nat → List Value
  | 0 => []
  | j + 1 => lcells G j ++ [.int .i32 (G.lk j), .bool false, .bool false]

theorem lcells_len (G : Gr) : ∀ j, (lcells G j).length = j * 3
  | 0 => rfl
  | j + 1 => by simp [lcells, lcells_len G j]; omega

theorem lcells_at (G : Gr) : ∀ j i, i < j → (lcells G j)[i * 3]? = some (.int .i32 (G.lk i)) ∧ (lcells G j)[i * 3 + 1]? = some (.bool false) ∧ (lcells G j)[i * 3 + 2]? = some (.bool false)
  | 0, i, h => by omega
  | j + 1, i, h => by
    have hl := lcells_len G j
    simp only [lcells]
    by_cases e : i = j
    · subst e
      rw [List.getElem?_append_right (by omega), List.getElem?_append_right (by omega), List.getElem?_append_right (by omega)]
      simp [hl]
    · have ih := lcells_at G j i (by omega)
      rw [List.getElem?_append_left (by omega), List.getElem?_append_left (by omega), List.getElem?_append_left (by omega)]
      exact ih

theorem lcells_one (G : Gr) (j : Nat) : ∀ u ∈ [Value.int .i32 (G.lk j : Nat), .bool false, .bool false], u.oneCell' = true := by
  intro u hu
  simp at hu
  rcases hu with rfl | rfl <;> rfl

structure Lks (w1 w2 wr : World) (G : Gr) (j : Nat) (ao : Option Addr) (c : Nat) : Prop where
  prog : wr.heap[w1.heap.size]? = some (.cells #[.slice (some ⟨w1.heap.size + 1, 0, none⟩) G.n G.n, .int .i32 G.st, .slice ao j c, .pointer none] 60 (0, 0))
  own : wr.ownsRow w2.heap.size 67 3 (.slice ao j c) j (lcells G j)
  grown : w2.grownBy wr (some w1.heap.size)

theorem Ins.looks {w1 w2 : World} {G : Gr} {sb : Nat} {z : Nat → Value} {i : Nat} (h : Ins w1 w2 G sb z i) : Lks w1 w2 w2 G 0 none 0 :=
  ⟨h.prog, World.ownsRow_nil _ _ _ _, World.grownBy.refl _ _⟩

/-- What a drawn region's loads read stays as it was behind a new block .. -/
theorem keep3_alloc {W : World} {o : Obj} {p b : Addr} {v x : Value} (h0 : W.cell? p = some v) (f0 : W.frozen? p = false) (h1 : W.cell? b = some x) :
    (W.alloc o).drew.cell? p = some v ∧ (W.alloc o).drew.frozen? p = false ∧ (W.alloc o).drew.cell? b = some x := by
  have l0 := World.block_lt_of_cell? W p h0
  have l1 := World.block_lt_of_cell? W b h1
  refine ⟨?_, ?_, ?_⟩
  · show (W.alloc o).cell? p = some v
    rw [World.cell?_alloc_lt _ _ _ l0]
    exact h0
  · show (W.alloc o).frozen? p = false
    rw [World.frozen?_of_block (w := W) (Below.heap_alloc W o _ l0)]
    exact f0
  · show (W.alloc o).cell? b = some x
    rw [World.cell?_alloc_lt _ _ _ l1]
    exact h1

/-- .. and behind an append to a row of the call's own. -/
theorem keep3_app {W w5 : World} {row : Option Nat} {p b : Addr} {v x : Value} (hg : W.grownBy w5 row) (h0 : W.cell? p = some v) (f0 : W.frozen? p = false) (h1 : W.cell? b = some x) (n0 : some p.block ≠ row) (n1 : some b.block ≠ row) :
    w5.cell? p = some v ∧ w5.frozen? p = false ∧ w5.cell? b = some x :=
  ⟨hg.cell h0 n0, (hg.frozen_far p (World.block_lt_of_cell? W p h0) n0).trans f0, hg.cell h1 n1⟩

theorem own_ne {W : World} {base : Nat} {e : TypeId} {size : Nat} {v : Value} {n : Nat} {xs : List Value} (h : W.ownsRow base e size v n xs) {k : Nat} (hk : k < base) : some k ≠ v.ownBlock := by
  intro e
  have := (h.lt k e.symm).1
  omega

theorem Lks.step {w1 w2 wr w5 : World} {G : Gr} {j c g2 cap2 : Nat} {ao : Option Addr} {o : Obj} (h : Lks w1 w2 wr G j ao c) (hw : w1.heap.size < w2.heap.size) (hgrow : (wr.alloc o).drew.grownBy w5 (Value.slice ao j c).ownBlock)
    (hown : w5.ownsRow w2.heap.size 67 3 (.slice (some ⟨g2, 0, none⟩) (j + 1) cap2) (j + 1) (lcells G j ++ [.int .i32 (G.lk j), .bool false, .bool false])) :
    Lks w1 w2 (w5.setCell ⟨w1.heap.size, 2, none⟩ (.slice (some ⟨g2, 0, none⟩) (j + 1) cap2)) G (j + 1) (some ⟨g2, 0, none⟩) cap2 := by
  have hl : w1.heap.size < wr.heap.size := (Array.getElem?_eq_some_iff.1 h.prog).1
  have hp5 : w5.heap[w1.heap.size]? = some (.cells #[.slice (some ⟨w1.heap.size + 1, 0, none⟩) G.n G.n, .int .i32 G.st, .slice ao j c, .pointer none] 60 (0, 0)) := by
    rw [hgrow.block _ (by show _ < (wr.alloc o).heap.size; simp; omega) (own_ne h.own hw)]
    show (wr.alloc o).heap[w1.heap.size]? = _
    rw [Below.heap_alloc _ _ _ hl]
    exact h.prog
  refine ⟨?_, ownsRow_setCell_below hown (by simpa using hw) _, ?_⟩
  · simp [World.setCell, Array.getElem?_modify, hp5]
  · exact grown_set ((grown_drew (grown_alloc h.grown o)).andThen hgrow (fun k hk => .inl (h.own.lt k hk).1)) _ _

/-- 'len(counts)'. -/
theorem wpList_len_at {ops : Array Oper} {rest : List Oper} {o : Oper} {a : Act} {w : World} {Q : Exit → Act → World → Prop} (hg : o.guard = none) (m : Operand) (hop : o.op = Op.call { callee := Callee.builtin Builtin.len, args := #[m], argTypes := #[53] })
    (b n c : Nat) (es : Array MapEntry) (hm : a.eval m = .map (some b)) (hb : w.heap[b]? = some (.map es c)) (hn : es.size = n)
    (hK : wpList Yba.prog ops Q rest (a.put o.dst (.int .i64 (n : Nat))) w) : wpList Yba.prog ops Q (o :: rest) a w := by
  have ht : Yba.prog.underlying 53 = some (.map 54 3) := Yba.underlying53
  have hrun : ∀ ty, (Builtin.len_ #[53] ty #[.map (some b)]).run Yba.prog w = .ok (.int .i64 (n : Nat)) w := fun ty => by
    simp [Builtin.len_, run_underlying ht, MapKept.run_getObj_map hb, Result.andThen, goInt, hn]
  refine wpList_plain hg fun K' hK' => ?_
  unfold Oper.wp
  simp [execOp, hop, resolve, invoke, builtin, hm, hrun, Result.andThen]
  exact hK' _ _ hK

/-- All that the calls at the law's end want of memory. -/
structure Fin (w wr : World) (G : Gr) (Y : Ly) (m : Nat) (W : Nat → Int) (bx : Nat) : Prop where
  pg : PgIn G Y wr
  ct : CtIn Y.sb (w.heap.size + 1 + 1) m W wr
  idx : ∀ i, i < G.n → wr.cell? ⟨bx, i, none⟩ = some (.int .i64 (G.si i : Nat))
  wts : ∀ j, j < m → wr.cell? ⟨w.heap.size + 1, j, none⟩ = some (.int .i64 (W j))
  below : Below w.heap.size w wr

theorem Fin.later {w wr w' : World} {G : Gr} {Y : Ly} {m : Nat} {W : Nat → Int} {bx : Nat} (h : Fin w wr G Y m W bx) (hb : Below wr.heap.size wr w') : Fin w w' G Y m W bx :=
  ⟨h.pg.below hb, h.ct.below hb, fun i hi => keep_below hb _ _ (h.idx i hi), fun j hj => keep_below hb _ _ (h.wts j hj), h.below.trans (hb.mono h.below.size)⟩

theorem fin_of {w w1 w2 wr : World} {G : Gr} {m : Nat} {W : Nat → Int} {z : Nat → Value} {ao : Option Addr} {c : Nat} (ht : Tab w w1 m W m) (hI : Ins w1 w2 G w.heap.size z G.n) (hK : Lks w1 w2 wr G G.L ao c) :
    ∃ Y : Ly, Y.p = w1.heap.size ∧ Y.sb = w.heap.size ∧ Fin w wr G Y m W (w1.heap.size + 1 + 1) := by
  have hmap := (Array.getElem?_eq_some_iff.1 ht.map).1
  have hbl := hI.below.size
  have hil := hI.idx.lt
  have hrl := hI.row.lt
  have hne : ∀ k, k < w2.heap.size → k ≠ w1.heap.size → wr.heap[k]? = w2.heap[k]? := fun k hk hn => hK.grown.block k hk (by intro e; exact hn (Option.some.inj e))
  have hold : ∀ k, k < w1.heap.size → wr.heap[k]? = w1.heap[k]? := fun k hk => (hne k (by omega) (by omega)).trans (hI.below.block k hk)
  have hrow := hI.row.of_block (hne (w1.heap.size + 1) (by omega) (by omega))
  have hidx := hI.idx.of_block (hne (w1.heap.size + 1 + 1) (by omega) (by omega))
  have hwts := ht.row.of_block (hold (w.heap.size + 1) (by omega))
  obtain ⟨cs, hcs⟩ := ht.sets
  have hP := hK.prog
  have hbel : Below w.heap.size w wr := (ht.below.trans (hI.below.mono ht.below.size)).grown hK.grown (Nat.le_trans ht.below.size hbl) (fun k hk => by cases hk; exact ht.below.size)
  have key : ∃ g : Nat, (ao = some ⟨g, 0, none⟩ ∨ G.L = 0) ∧ ∀ j, j < G.L → wr.cell? ⟨g, j * 3, none⟩ = some (.int .i32 (G.lk j)) ∧ wr.cell? ⟨g, j * 3 + 1, none⟩ = some (.bool false) ∧ wr.cell? ⟨g, j * 3 + 2, none⟩ = some (.bool false) := by
    by_cases h0 : G.L = 0
    · exact ⟨0, .inr h0, fun j hj => by omega⟩
    · obtain ⟨g, cap, hv, _, _⟩ := hK.own.form (by omega)
      have hown := hK.own
      rw [hv] at hown
      refine ⟨g, .inl (by cases hv; rfl), fun j hj => ?_⟩
      have hl := lcells_at G G.L j hj
      rw [hown.cellAt (j * 3) (by omega), hown.cellAt (j * 3 + 1) (by omega), hown.cellAt (j * 3 + 2) (by omega)]
      exact hl
  obtain ⟨g, hg1, hg2⟩ := key
  have ic : ∀ i r, i < G.n → r < 5 → wr.cell? ⟨w1.heap.size + 1, i * 5 + r, none⟩ = some (icell G w.heap.size i r) := fun i r hi hr => by
    rw [hrow.cell (i := i * 5 + r) (by omega)]
    simp only [irow]
    rw [if_pos (by omega), show (i * 5 + r) / 5 = i by omega, show (i * 5 + r) % 5 = r by omega]
  refine ⟨⟨w1.heap.size, w1.heap.size + 1, w.heap.size, ao, c, g⟩, rfl, rfl, ?_, ?_, ?_, ?_, hbel⟩
  · refine ⟨by simp [World.cell?, hP], by simp [World.cell?, hP], by simp [World.cell?, hP], hg1, fun i hi => ?_, fun i hi => ?_, fun i hi => ?_, fun i hi => ?_, fun i hi => ?_, fun j hj => (hg2 j hj).1, fun j hj => (hg2 j hj).2.1, fun j hj => (hg2 j hj).2.2⟩
    · exact (ic i 0 hi (by omega)).trans (by simp [icell])
    · exact (ic i 1 hi (by omega)).trans (by simp [icell])
    · exact (ic i 2 hi (by omega)).trans (by simp [icell])
    · exact (ic i 3 hi (by omega)).trans (by simp [icell])
    · exact (ic i 4 hi (by omega)).trans (by simp [icell])
  · exact ⟨⟨cs, (hold w.heap.size (by omega)).trans hcs⟩, (hold _ hmap).trans ht.map⟩
  · intro i hi
    rw [hidx.cell hi]
    simp [frow, hi]
  · intro j hj
    rw [hwts.cell hj]
    simp [frow, hj]

theorem CtIn.drewN {sb mb m : Nat} {W : Nat → Int} {w : World} (h : CtIn sb mb m W w) (n : Nat) : CtIn sb mb m W (w.drewN n) := ⟨h.sets, h.map⟩

theorem cell_three_new (w : World) (a b c : Value) (t : TypeId) : ∀ j u, [a, b, c][j]? = some u → (w.alloc (.cells #[a, b, c] t)).cell? ((⟨w.heap.size, 0, none⟩ : Addr).add j) = some u := by
  intro j u hj
  match j, hj with
  | 0, hj => simp at hj; subst hj; simp [Addr.add]
  | 1, hj => simp at hj; subst hj; simp [Addr.add]
  | 2, hj => simp at hj; subst hj; simp [Addr.add]
  | j + 3, hj => simp at hj

end Go.Proofs.Ybulkccoo
