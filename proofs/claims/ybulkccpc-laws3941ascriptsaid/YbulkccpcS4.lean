import Derived.Test.YbulkccpcS3
import Derived.WalkSpells
import Derived.WalkLawsBesides
namespace Go.Proofs.Ybulkccpc
open Go.RowKit
namespace Sx

/-- What the walk is told of the steps. -/
structure St (w : World) (a : Option Addr) (len : Nat) (b off : Nat) (old want now : Nat → Int) (uc : Nat → Bool) : Prop where
  le : len ≤ 1024
  at_ : 0 < len → a = some ⟨b, off, none⟩
  c0 : ∀ i, i < len → w.cell? ⟨b, off + i * 4, none⟩ = some (.int .u64 (old i))
  c1 : ∀ i, i < len → w.cell? ⟨b, off + i * 4 + 1, none⟩ = some (.int .u64 (want i))
  c2 : ∀ i, i < len → w.cell? ⟨b, off + i * 4 + 2, none⟩ = some (.int .i64 (now i))
  c3 : ∀ i, i < len → w.cell? ⟨b, off + i * 4 + 3, none⟩ = some (.bool (uc i))

set_option maxRecDepth 100000 in
set_option maxHeartbeats 1600000 in
theorem script_in (init : Int) (a : Option Addr) (len cap b off : Nat) (old want now : Nat → Int) (uc : Nat → Bool) (w : World) (h : St w a len b off old want now uc) :
    Calls Yba.prog 4 #[.int .u64 init, .slice a len cap] w fun e w' => e = .returned (.bool true) ∧ Below w.heap.size w w' := by
  have hle := h.le
  have hle' : (len : Int) ≤ 1024 := by omega
  have m0 := Mx.new w 0 0 none
  have h5 := f5 ⟨w.heap.size, 0, none⟩ init _ _ m0.c0 (m0.fz 0)
  have m1 := m0.set0 init
  have b1 : Below w.heap.size w ((w.alloc (.cells (mxc 0 0 none) 54)).setCell ⟨w.heap.size, 0, none⟩ (.int .u64 init)) := ((Below.refl _ w).alloc (Nat.le_refl _) _).setCell (p := ⟨w.heap.size, 0, none⟩) (Nat.le_refl _) _
  generalize hw1 : (w.alloc (.cells (mxc 0 0 none) 54)).setCell ⟨w.heap.size, 0, none⟩ (.int .u64 init) = w1 at *
  go_enter Yba.func4, Yba.ntmps4
  go_wp2_with (go_at_call 5; refine Calls.mono h5 ?_; rintro e w' ⟨rfl, rfl⟩)
  clear h5
  go_loopw [6, 7, 8] (fun cu ct i wr => ∃ (k n : Nat) (s t : Int), k ≤ len ∧ n ≤ k ∧ i = .int .i64 k ∧ ct = .int .u64 n ∧ cu = .int .u64 s ∧ Sm wr w.heap.size s t n ∧ Below w.heap.size w wr) (fun _ _ i _ => len - (intOf i).toNat)
  case atStart => exact ⟨0, 0, init, 0, Nat.zero_le _, Nat.le_refl _, rfl, rfl, rfl, .inl ⟨rfl, m1⟩, b1⟩
  case round =>
    obtain ⟨k, n, s, t, hk, hn, rfl, rfl, rfl, hS, hB⟩ := hrel
    clear m0 m1 b1
    by_cases hlt : k < len
    · have q0 := (hB.cell (World.block_lt_of_cell? w _ (h.c0 k hlt))).trans (h.c0 k hlt)
      have q1 := (hB.cell (World.block_lt_of_cell? w _ (h.c1 k hlt))).trans (h.c1 k hlt)
      have q2 := (hB.cell (World.block_lt_of_cell? w _ (h.c2 k hlt))).trans (h.c2 k hlt)
      have q3 := (hB.cell (World.block_lt_of_cell? w _ (h.c3 k hlt))).trans (h.c3 k hlt)
      obtain rfl : a = some ⟨b, off, none⟩ := h.at_ (by omega)
      have hk0 : (0 : Int) ≤ (k : Int) := by omega
      have hk1 : (k : Int) < (len : Int) := by omega
      generalize hO : old k = O at *
      generalize hW : want k = Wt at *
      generalize hN : now k = N at *
      generalize hU : uc k = U at *
      have hq := heap_alloc_new wr (.cells #[.int .u64 O, .int .u64 Wt, .int .i64 N, .bool U] 71)
      have hSq := hS.alloc (.cells #[.int .u64 O, .int .u64 Wt, .int .i64 N, .bool U] 71)
      have hBq := hB.alloc hB.size (.cells #[.int .u64 O, .int .u64 Wt, .int .i64 N, .bool U] 71)
      have hqm : wr.heap.size ≠ w.heap.size := Nat.ne_of_gt hS.lt
      have hn9 : n < 100000 := by omega
      cases U
      · by_cases hOs : s = O
        · subst hOs
          go_wp2_with fail
          clear q0 q1 q2 q3
          generalize hwq : wr.alloc (.cells #[.int .u64 s, .int .u64 Wt, .int .i64 N, .bool false] 71) = wq at *
          clear hwq
          go_at_call 6
          refine (turn_hit _ _ _ _ _ _ _ hn9 _ _ hSq hq hqm).mono ?_
          rintro e wx ⟨rfl, hSx, hBx, hqx⟩
          have y1 : wx.cell? ⟨wr.heap.size, 1, none⟩ = some (.int .u64 Wt) := by rw [cell_of_row _ _ 1 _ _ _ hqx]; rfl
          have y2 : wx.cell? ⟨wr.heap.size, 2, none⟩ = some (.int .i64 N) := by rw [cell_of_row _ _ 2 _ _ _ hqx]; rfl
          have z0 := hSx.c0
          have z5 := hSx.c5
          have hBy : Below w.heap.size w wx := hBq.trans hBx
          have hn1 : ¬ ((n : Int) + 1 = 0) := by omega
          have hn2 : IntKind.u64.wrap ((n : Int) + 1) = (n : Int) + 1 := by rw [IntKind.wrap_u64]; omega
          go_wp2_with (go_at_call 7; refine (f7 _ _ _ z0).mono ?_; rintro e wx ⟨rfl, rfl⟩)
          go_quiet ((go_at_call 8; exact Calls.quiet_of_same (f8 _ _ _ _ z5)))
          have hSd := hSx.drewN nq
          have hBd := below_drewN hBy nq
          generalize hwd : wx.drewN nq = wd at *
          clear hwd z0 z5 y1 y2
          obtain ⟨cb, hcb, hM, hC⟩ := hSd.some (by omega)
          go_wp2_with (first | (go_at_call 9; refine (f9_at _ _ _ _ _ hM.c11 hC).mono ?_; rintro e wd ⟨rfl, rfl⟩) | (go_at_call 10; refine (f10 _ _ _ _ hC.c3).mono ?_; rintro e wd ⟨rfl, rfl⟩))
          go_roundw
          case rel => exact ⟨k + 1, n + 1, Wt, N, by omega, by omega, by go_num, by go_num, rfl, hSd, hBd⟩
          case measure => simp [intOf]; omega
        · skip
          go_wp2_with fail
          clear q0 q1 q2 q3
          generalize hwq : wr.alloc (.cells #[.int .u64 O, .int .u64 Wt, .int .i64 N, .bool false] 71) = wq at *
          clear hwq
          go_at_call 6
          refine (turn_miss _ _ _ _ _ _ _ _ _ _ hSq hq hqm hOs).mono ?_
          rintro e wx ⟨rfl, hSx, hBx, hqx⟩
          have y1 : wx.cell? ⟨wr.heap.size, 1, none⟩ = some (.int .u64 Wt) := by rw [cell_of_row _ _ 1 _ _ _ hqx]; rfl
          have y2 : wx.cell? ⟨wr.heap.size, 2, none⟩ = some (.int .i64 N) := by rw [cell_of_row _ _ 2 _ _ _ hqx]; rfl
          have z0 := hSx.c0
          have z5 := hSx.c5
          have hBy : Below w.heap.size w wx := hBq.trans hBx
          have hOs' : ¬ O = s := fun e => hOs e.symm
          go_wp2_with (go_at_call 7; refine (f7 _ _ _ z0).mono ?_; rintro e wx ⟨rfl, rfl⟩)
          go_quiet ((go_at_call 8; exact Calls.quiet_of_same (f8 _ _ _ _ z5)))
          have hSd := hSx.drewN nq
          have hBd := below_drewN hBy nq
          generalize hwd : wx.drewN nq = wd at *
          clear hwd z0 z5 y1 y2
          rcases Nat.eq_zero_or_pos n with rfl | hpos
          · have hM := hSd.nil
            go_wp2_with (go_at_call 9; refine (f9_nil _ _ _ hM.c11).mono ?_; rintro e wd ⟨rfl, rfl⟩)
            go_roundw
            case rel => exact ⟨k + 1, 0, s, N, by omega, by omega, by go_num, rfl, rfl, hSd, hBd⟩
            case measure => simp [intOf]; omega
          · have hn1 : ¬ n = 0 := by omega
            obtain ⟨cb, hcb, hM, hC⟩ := hSd.some hpos
            go_wp2_with (first | (go_at_call 9; refine (f9_at _ _ _ _ _ hM.c11 hC).mono ?_; rintro e wd ⟨rfl, rfl⟩) | (go_at_call 10; refine (f10 _ _ _ _ hC.c3).mono ?_; rintro e wd ⟨rfl, rfl⟩))
            go_roundw
            case rel => exact ⟨k + 1, n, s, N, by omega, by omega, by go_num, rfl, rfl, hSd, hBd⟩
            case measure => simp [intOf]; omega
      · skip
        go_wp2_with fail
        clear q0 q1 q2 q3
        generalize hwq : wr.alloc (.cells #[.int .u64 O, .int .u64 Wt, .int .i64 N, .bool true] 71) = wq at *
        clear hwq
        go_at_call 6
        refine (turn_hit _ _ _ _ _ _ _ hn9 _ _ hSq hq hqm).mono ?_
        rintro e wx ⟨rfl, hSx, hBx, hqx⟩
        have y1 : wx.cell? ⟨wr.heap.size, 1, none⟩ = some (.int .u64 Wt) := by rw [cell_of_row _ _ 1 _ _ _ hqx]; rfl
        have y2 : wx.cell? ⟨wr.heap.size, 2, none⟩ = some (.int .i64 N) := by rw [cell_of_row _ _ 2 _ _ _ hqx]; rfl
        have z0 := hSx.c0
        have z5 := hSx.c5
        have hBy : Below w.heap.size w wx := hBq.trans hBx
        have hn1 : ¬ ((n : Int) + 1 = 0) := by omega
        have hn2 : IntKind.u64.wrap ((n : Int) + 1) = (n : Int) + 1 := by rw [IntKind.wrap_u64]; omega
        go_wp2_with (go_at_call 7; refine (f7 _ _ _ z0).mono ?_; rintro e wx ⟨rfl, rfl⟩)
        go_quiet ((go_at_call 8; exact Calls.quiet_of_same (f8 _ _ _ _ z5)))
        have hSd := hSx.drewN nq
        have hBd := below_drewN hBy nq
        generalize hwd : wx.drewN nq = wd at *
        clear hwd z0 z5 y1 y2
        obtain ⟨cb, hcb, hM, hC⟩ := hSd.some (by omega)
        go_wp2_with (first | (go_at_call 9; refine (f9_at _ _ _ _ _ hM.c11 hC).mono ?_; rintro e wd ⟨rfl, rfl⟩) | (go_at_call 10; refine (f10 _ _ _ _ hC.c3).mono ?_; rintro e wd ⟨rfl, rfl⟩))
        go_roundw
        case rel => exact ⟨k + 1, n + 1, Wt, N, by omega, by omega, by go_num, by go_num, rfl, hSd, hBd⟩
        case measure => simp [intOf]; omega
    · obtain rfl : k = len := by omega
      go_wp2
      go_ret
      exact ⟨rfl, hB⟩

theorem script_long (init : Int) (a : Option Addr) (len cap : Nat) (w : World) (h : 1024 < len) :
    Calls Yba.prog 4 #[.int .u64 init, .slice a len cap] w fun e w' => e = .returned (.bool true) ∧ Below w.heap.size w w' := by
  have h' : (1024 : Int) < (len : Int) := by omega
  go_enter Yba.func4, Yba.ntmps4
  go_wp2
  go_ret
  exact ⟨rfl, Below.refl _ _⟩
end Sx
end Go.Proofs.Ybulkccpc
