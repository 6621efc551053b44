import Derived.Test.YbulkccooPtrMap
namespace Go.Proofs.Ybulkccoo
open Go.RowKit Gx

def wrow (G : Gr) (W : Nat → Int) (k : Nat) (i : Nat) : Value := .int .i64 (if i < k then wt G W i else 0)

theorem wrow_hit (G : Gr) (W : Nat → Int) (k : Nat) {x : Int} (hx : x = wt G W k) (i : Nat) : (if i = k then Value.int .i64 x else wrow G W k i) = wrow G W (k + 1) i := by
  unfold wrow
  by_cases e : i = k
  · subst e
    rw [if_pos rfl, if_pos (by omega), hx]
  · rw [if_neg e]
    by_cases h : i < k
    · rw [if_pos h, if_pos (by omega)]
    · rw [if_neg h, if_neg (by omega)]

theorem wrow_hit2 (G : Gr) (W : Nat → Int) (k : Nat) {x y : Int} (hx : x = wt G W k) (i : Nat) : (if i = k then Value.int .i64 x else if i = k then Value.int .i64 y else wrow G W k i) = wrow G W (k + 1) i := by
  rw [← wrow_hit G W k hx i]
  by_cases e : i = k
  · rw [if_pos e, if_pos e]
  · rw [if_neg e, if_neg e, if_neg e]

theorem wrow_miss (G : Gr) (W : Nat → Int) (k : Nat) (h0 : wt G W k = 0) (i : Nat) : wrow G W k i = wrow G W (k + 1) i := by
  unfold wrow
  by_cases e : i = k
  · subst e
    rw [if_neg (by omega), if_pos (by omega), h0]
  · by_cases h : i < k
    · rw [if_pos h, if_pos (by omega)]
    · rw [if_neg h, if_neg (by omega)]

set_option maxHeartbeats 1000000 in
set_option maxRecDepth 100000 in
theorem weights_any (G : Gr) (Y : Ly) (hG : G.Ok) (W : Nat → Int) (m mb cb : Nat) (hsi : ∀ i, G.si i < m) (w : World) (hP : PgIn G Y w) (hC : CtIn Y.sb mb m W w)
    (hcb : w.cell? ⟨cb, 3, none⟩ = some (.map (some mb))) :
    Calls Yba.prog 12 #[.pointer (some ⟨Y.p, 0, none⟩), .pointer (some ⟨cb, 0, none⟩)] w fun e w' => e = .returned (.slice (some ⟨w.heap.size, 0, none⟩) G.n G.n) ∧
      w'.rowIs w.heap.size 3 G.n (fun i => .int .i64 (wt G W i)) ∧ Below w.heap.size w w' := by
  have c0 := hP.c0
  have hp : Y.p < w.heap.size := World.block_lt_of_cell? w _ c0
  have n1 := hG.n1
  have hcbl : cb < w.heap.size := World.block_lt_of_cell? w _ hcb
  have hmk := run_make_row' (P := Yba.prog) 52 3 (.int .i64 0) 8 Yba.underlying52 Yba.info3 rfl .i64 .i64 G.n (by omega) (by omega)
  go_enter Yba.func12, Yba.ntmps12
  go_wp2
  clear hmk
  go_loopw [19] (fun i wr => ∃ k : Nat, k ≤ G.n ∧ i = .int .i64 k ∧ wr.rowIs w.heap.size 3 G.n (wrow G W k) ∧ Below w.heap.size w wr) (fun i _ => G.n - (intOf i).toNat)
  case atStart =>
    exact ⟨0, Nat.zero_le _, rfl, (World.rowIs_made _ _ _ _).congr (fun i _ => by simp [wrow]), (Below.refl _ _).alloc (Nat.le_refl _) _⟩
  case round =>
    obtain ⟨k, hk, rfl, hrow, hb⟩ := hrel
    have hpr := hP.below hb
    have hsz := hb.size
    have hrl := hrow.lt
    by_cases hlt : k < G.n
    · have i0 := hpr.i0 k hlt
      have i1 := hpr.i1 k hlt
      have i2 := hpr.i2 k hlt
      have i3 := hpr.i3 k hlt
      have i4 := hpr.i4 k hlt
      have hrc := hrow.cell hlt
      have hrf := hrow.frozen k
      have hbi : Y.bi < wr.heap.size := World.block_lt_of_cell? _ _ i0
      by_cases ho : G.op k = 0
      · have ho' : ((G.op k : Int) == 0) = true := by simp [ho]
        cases hd : G.dt k
        · rw [hd] at i1
          have hb1 := hb.setCell (p := ⟨w.heap.size, k, none⟩) (Nat.le_refl _) (Value.int .i64 1)
          have hcb1 := (hb1.cell (p := ⟨cb, 3, none⟩) hcbl).trans hcb
          have HX : Hid (W (G.si k) = wt G W k) := by simp [Hid, wt, ho, hd]
          go_wp2_with (go_at_call 18; refine (count_hit _ cb mb _ (W (G.si k)) ?_ ?_).mono ?_; (rw [World.cell?_alloc_lt _ _ _ (by simp; omega)]; exact hcb1); (exact (hC.below (hb1.alloc (by simp; exact hsz) _)).look true (hsi k)); rintro e w' ⟨rfl, rfl⟩)
          go_roundw
          case rel => exact ⟨k + 1, by omega, by go_num, (((hrow.set k _).set k _).alloc _).congr (fun i _ => wrow_hit2 G W k HX.out i), (hb1.setCell (Nat.le_refl _) _).alloc (by simpa using hsz) _⟩
          case measure => simp [intOf]; omega
        · rw [hd] at i1
          go_wp2
          go_roundw
          case rel => exact ⟨k + 1, by omega, by go_num, ((hrow.set k _).alloc _).congr (fun i _ => wrow_hit G W k (by simp [wt, ho, hd]) i), (hb.setCell (Nat.le_refl _) _).alloc (by simpa using hsz) _⟩
          case measure => simp [intOf]; omega
      · have ho' : ((G.op k : Int) == 0) = false := by simp [ho]
        go_wp2
        go_roundw
        case rel => exact ⟨k + 1, by omega, by go_num, (hrow.alloc _).congr (fun i _ => wrow_miss G W k (by simp [wt, ho]) i), hb.alloc hsz _⟩
        case measure => simp [intOf]; omega
    · have hkn : k = G.n := by omega
      subst hkn
      go_wp2
      go_ret
      exact ⟨rfl, hrow.congr (fun i hi => by simp [wrow, hi]), hb⟩
end Go.Proofs.Ybulkccoo
