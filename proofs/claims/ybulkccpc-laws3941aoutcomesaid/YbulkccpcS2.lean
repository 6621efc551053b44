import Derived.Test.YbulkccpcS1
namespace Go.Proofs.Ybulkccpc
open Go.RowKit
namespace Sx

/-- counters, where there are none: they are made -/
theorem f14_nil (mb : Nat) (s t : Int) (w : World) (h : Mx w mb s t none) :
    Calls Yba.prog 14 #[.pointer (some ⟨mb, 11, none⟩)] w fun e w' => e = .returned (.pointer (some ⟨w.heap.size, 0, none⟩)) ∧
      w' = (w.alloc (.cells (ccc 0) 67)).setCell ⟨mb, 11, none⟩ (.pointer (some ⟨w.heap.size, 0, none⟩)) := by
  have hA := h.alloc (.cells (ccc 0) 67)
  have hC := Cx.new w 0
  have hne : mb ≠ w.heap.size := Nat.ne_of_lt h.lt
  have h1 := f9_nil mb 11 w h.c11
  have h2 := f21 mb 11 _ 0 _ hA.c11 (hA.fz 11) hC
  have h3 := f9_at mb 11 _ 0 _ (hA.set11 (some ⟨w.heap.size, 0, none⟩)).c11 (hC.other (a := ⟨mb, 11, none⟩) (fun e => hne e.symm) (.pointer (some ⟨w.heap.size, 0, none⟩)))
  generalize hw1 : (w.alloc (.cells (ccc 0) 67)).setCell ⟨mb, 11, none⟩ (.pointer (some ⟨w.heap.size, 0, none⟩)) = w1 at h2 h3
  go_enter Yba.func14, Yba.ntmps14
  go_wp2_with (first | (go_at_call 9; first | (refine h1.mono ?_; rintro e w' ⟨rfl, rfl⟩) | (refine h3.mono ?_; rintro e w' ⟨rfl, rfl⟩)) | (go_at_call 21; refine Calls.mono h2 ?_; rintro e w' ⟨rfl, rfl⟩))
  go_ret
  exact ⟨rfl, rfl⟩

/-- counters, where there are some: those -/
theorem f14_at (mb cb : Nat) (s t n : Int) (w : World) (h : Mx w mb s t (some ⟨cb, 0, none⟩)) (hc : Cx w cb n) :
    Calls Yba.prog 14 #[.pointer (some ⟨mb, 11, none⟩)] w fun e w' => e = .returned (.pointer (some ⟨cb, 0, none⟩)) ∧ w' = w := by
  have h1 := f9_at mb 11 cb n w h.c11 hc
  go_enter Yba.func14, Yba.ntmps14
  go_wp2_with (go_at_call 9; refine h1.mono ?_; rintro e w' ⟨rfl, rfl⟩)
  go_ret
  exact ⟨rfl, rfl⟩

/-- turnStarving, where the word is another -/
theorem f6_miss (mb : Nat) (s t : Int) (p : Option Addr) (old want now : Int) (w : World) (h : Mx w mb s t p) (hne : ¬ s = old) :
    Calls Yba.prog 6 #[.pointer (some ⟨mb, 0, none⟩), .int .u64 old, .int .u64 want, .int .i64 now] w fun e w' => e = .returned (.bool false) ∧ w' = w.setCell ⟨mb, 5, none⟩ (.int .i64 now) := by
  have hA := h.set5 now
  have h1 := f12 mb 5 now _ w h.c5 (h.fz 5)
  have h2 := f13_miss ⟨mb, 0, none⟩ s old want hne _ hA.c0 (hA.fz 0)
  generalize hw1 : w.setCell ⟨mb, 5, none⟩ (.int .i64 now) = w1 at h1 h2
  go_enter Yba.func6, Yba.ntmps6
  go_wp2_with (first | (go_at_call 12; refine h1.mono ?_; rintro e w' ⟨rfl, rfl⟩) | (go_at_call 13; refine h2.mono ?_; rintro e w' ⟨rfl, rfl⟩))
  go_ret
  exact ⟨rfl, rfl⟩

/-- turnStarving, where the word is 'old' and there are no counters yet -/
theorem f6_first (mb : Nat) (s t : Int) (want now : Int) (w : World) (h : Mx w mb s t none) :
    Calls Yba.prog 6 #[.pointer (some ⟨mb, 0, none⟩), .int .u64 s, .int .u64 want, .int .i64 now] w fun e w' => e = .returned (.bool true) ∧
      Mx w' mb want now (some ⟨w.heap.size, 0, none⟩) ∧ Cx w' w.heap.size 1 ∧ Below mb w w' ∧ ∀ b, b < w.heap.size → b ≠ mb → w'.heap[b]? = w.heap[b]? := by
  have hA := h.set5 now
  have h1 := f12 mb 5 now _ w h.c5 (h.fz 5)
  have h2 := f13_hit ⟨mb, 0, none⟩ s want _ hA.c0 (hA.fz 0)
  have hB := hA.set0 want
  have hs : ((w.setCell ⟨mb, 5, none⟩ (.int .i64 now)).setCell ⟨mb, 0, none⟩ (.int .u64 want)).heap.size = w.heap.size := by simp
  have hlt := h.lt
  have hbl : Below mb w ((w.setCell ⟨mb, 5, none⟩ (.int .i64 now)).setCell ⟨mb, 0, none⟩ (.int .u64 want)) := ((Below.refl mb w).setCell (p := ⟨mb, 5, none⟩) (Nat.le_refl _) _).setCell (p := ⟨mb, 0, none⟩) (Nat.le_refl _) _
  have hkt : ∀ b, b < w.heap.size → b ≠ mb → (((((w.setCell ⟨mb, 5, none⟩ (.int .i64 now)).setCell ⟨mb, 0, none⟩ (.int .u64 want)).alloc (.cells (ccc 0) 67)).setCell ⟨mb, 11, none⟩ (.pointer (some ⟨w.heap.size, 0, none⟩))).setCell ⟨w.heap.size, 3, none⟩ (.int .u64 (0 + 1))).heap[b]? = w.heap[b]? := fun b hb hbm => by
    rw [heap_setCell_other _ _ _ _ (Nat.ne_of_lt hb), heap_setCell_other _ _ _ _ hbm, Below.heap_alloc _ _ _ (by simpa using hb), heap_setCell_other _ _ _ _ hbm, heap_setCell_other _ _ _ _ hbm]
  generalize hw1 : w.setCell ⟨mb, 5, none⟩ (.int .i64 now) = w1 at *
  generalize hw2 : w1.setCell ⟨mb, 0, none⟩ (.int .u64 want) = w2 at *
  have h3 := f14_nil mb want now w2 hB
  rw [hs] at h3
  have hC := (hB.alloc (.cells (ccc 0) 67)).set11 (some ⟨w.heap.size, 0, none⟩)
  have hD : Cx ((w2.alloc (.cells (ccc 0) 67)).setCell ⟨mb, 11, none⟩ (.pointer (some ⟨w.heap.size, 0, none⟩))) w.heap.size 0 := by
    have := Cx.new w2 0
    rw [hs] at this
    exact this.other (a := ⟨mb, 11, none⟩) (Nat.ne_of_gt hlt) _
  have hbl3 : Below mb w ((w2.alloc (.cells (ccc 0) 67)).setCell ⟨mb, 11, none⟩ (.pointer (some ⟨w.heap.size, 0, none⟩))) := (hbl.alloc (by omega) _).setCell (p := ⟨mb, 11, none⟩) (Nat.le_refl _) _
  generalize hw3 : (w2.alloc (.cells (ccc 0) 67)).setCell ⟨mb, 11, none⟩ (.pointer (some ⟨w.heap.size, 0, none⟩)) = w3 at *
  have h4 := f15 w.heap.size 3 0 (by decide) (by decide) w3 hD.c3 (hD.fz 3)
  have hE := hC.other (a := ⟨w.heap.size, 3, none⟩) (Nat.ne_of_lt hlt) (.int .u64 (0 + 1))
  have hF := hD.set3 (0 + 1)
  have hbl4 : Below mb w (w3.setCell ⟨w.heap.size, 3, none⟩ (.int .u64 (0 + 1))) := hbl3.setCell (p := ⟨w.heap.size, 3, none⟩) (Nat.le_of_lt hlt) _
  generalize hw4 : w3.setCell ⟨w.heap.size, 3, none⟩ (.int .u64 (0 + 1)) = w4 at *
  go_enter Yba.func6, Yba.ntmps6
  go_wp2_with (first | (go_at_call 12; refine h1.mono ?_; rintro e w' ⟨rfl, rfl⟩) | (go_at_call 13; refine h2.mono ?_; rintro e w' ⟨rfl, rfl⟩) | (go_at_call 14; refine h3.mono ?_; rintro e w' ⟨rfl, rfl⟩) | (go_at_call 15; refine h4.mono ?_; rintro e w' ⟨rfl, rfl⟩))
  go_ret
  exact ⟨rfl, hE, hF, hbl4, hkt⟩

/-- turnStarving, where the word is 'old' and the counters stand -/
theorem f6_again (mb cb : Nat) (s t n : Int) (hn0 : 0 ≤ n) (hn1 : n < 100000) (want now : Int) (w : World) (h : Mx w mb s t (some ⟨cb, 0, none⟩)) (hc : Cx w cb n) (hmc : mb < cb) :
    Calls Yba.prog 6 #[.pointer (some ⟨mb, 0, none⟩), .int .u64 s, .int .u64 want, .int .i64 now] w fun e w' => e = .returned (.bool true) ∧
      Mx w' mb want now (some ⟨cb, 0, none⟩) ∧ Cx w' cb (n + 1) ∧ Below mb w w' ∧ ∀ b, b ≠ mb → b ≠ cb → w'.heap[b]? = w.heap[b]? := by
  have hA := h.set5 now
  have h1 := f12 mb 5 now _ w h.c5 (h.fz 5)
  have h2 := f13_hit ⟨mb, 0, none⟩ s want _ hA.c0 (hA.fz 0)
  have hB := hA.set0 want
  have hD := (hc.other (a := ⟨mb, 5, none⟩) (Nat.ne_of_gt hmc) (.int .i64 now)).other (a := ⟨mb, 0, none⟩) (Nat.ne_of_gt hmc) (.int .u64 want)
  have hbl : Below mb w ((w.setCell ⟨mb, 5, none⟩ (.int .i64 now)).setCell ⟨mb, 0, none⟩ (.int .u64 want)) := ((Below.refl mb w).setCell (p := ⟨mb, 5, none⟩) (Nat.le_refl _) _).setCell (p := ⟨mb, 0, none⟩) (Nat.le_refl _) _
  have hkt : ∀ b, b ≠ mb → b ≠ cb → (((w.setCell ⟨mb, 5, none⟩ (.int .i64 now)).setCell ⟨mb, 0, none⟩ (.int .u64 want)).setCell ⟨cb, 3, none⟩ (.int .u64 (n + 1))).heap[b]? = w.heap[b]? := fun b hbm hbc => by
    rw [heap_setCell_other _ _ _ _ hbc, heap_setCell_other _ _ _ _ hbm, heap_setCell_other _ _ _ _ hbm]
  generalize hw1 : w.setCell ⟨mb, 5, none⟩ (.int .i64 now) = w1 at *
  generalize hw2 : w1.setCell ⟨mb, 0, none⟩ (.int .u64 want) = w2 at *
  have h3 := f14_at mb cb want now n w2 hB hD
  have h4 := f15 cb 3 n hn0 hn1 w2 hD.c3 (hD.fz 3)
  have hE := hB.other (a := ⟨cb, 3, none⟩) (Nat.ne_of_lt hmc) (.int .u64 (n + 1))
  have hF := hD.set3 (n + 1)
  have hbl4 : Below mb w (w2.setCell ⟨cb, 3, none⟩ (.int .u64 (n + 1))) := hbl.setCell (p := ⟨cb, 3, none⟩) (Nat.le_of_lt hmc) _
  generalize hw4 : w2.setCell ⟨cb, 3, none⟩ (.int .u64 (n + 1)) = w4 at *
  go_enter Yba.func6, Yba.ntmps6
  go_wp2_with (first | (go_at_call 12; refine h1.mono ?_; rintro e w' ⟨rfl, rfl⟩) | (go_at_call 13; refine h2.mono ?_; rintro e w' ⟨rfl, rfl⟩) | (go_at_call 14; refine h3.mono ?_; rintro e w' ⟨rfl, rfl⟩) | (go_at_call 15; refine h4.mono ?_; rintro e w' ⟨rfl, rfl⟩))
  go_ret
  exact ⟨rfl, hE, hF, hbl4, hkt⟩
end Sx
end Go.Proofs.Ybulkccpc
