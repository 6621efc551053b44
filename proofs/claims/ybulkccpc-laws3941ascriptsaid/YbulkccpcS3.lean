import Derived.Test.YbulkccpcS2
import Derived.WalkSmall
import Derived.BigQuiet
import Derived.Deep.QuietTactic
namespace Go.Proofs.Ybulkccpc
open Go.RowKit
namespace Sx

/-- The mutex after n turns: its word s, its time t; no counters where n = 0, else counters that say n. -/
def Sm (w : World) (mb : Nat) (s t : Int) (n : Nat) : Prop :=
  (n = 0 ∧ Mx w mb s t none) ∨ ∃ cb, 0 < n ∧ mb < cb ∧ Mx w mb s t (some ⟨cb, 0, none⟩) ∧ Cx w cb n

variable {w : World} {mb : Nat} {s t : Int} {n : Nat}

theorem Sm.c0 (h : Sm w mb s t n) : w.cell? ⟨mb, 0, none⟩ = some (.int .u64 s) := by
  rcases h with ⟨_, h⟩ | ⟨cb, _, _, h, _⟩ <;> exact h.c0
theorem Sm.c5 (h : Sm w mb s t n) : w.cell? ⟨mb, 5, none⟩ = some (.int .i64 t) := by
  rcases h with ⟨_, h⟩ | ⟨cb, _, _, h, _⟩ <;> exact h.c5
theorem Sm.lt (h : Sm w mb s t n) : mb < w.heap.size := by
  rcases h with ⟨_, h⟩ | ⟨cb, _, _, h, _⟩ <;> exact h.lt
theorem Sm.alloc (h : Sm w mb s t n) (o : Obj) : Sm (w.alloc o) mb s t n := by
  rcases h with ⟨h0, h⟩ | ⟨cb, h0, h1, h, h2⟩
  · exact .inl ⟨h0, h.alloc o⟩
  · exact .inr ⟨cb, h0, h1, h.alloc o, h2.alloc o⟩
theorem Sm.drewN (h : Sm w mb s t n) (k : Nat) : Sm (w.drewN k) mb s t n := h
theorem Sm.nil (h : Sm w mb s t 0) : Mx w mb s t none := by
  rcases h with ⟨_, h⟩ | ⟨cb, h0, _⟩
  · exact h
  · omega
theorem Sm.some (h : Sm w mb s t n) (hn : 0 < n) : ∃ cb, mb < cb ∧ Mx w mb s t (some ⟨cb, 0, none⟩) ∧ Cx w cb n := by
  rcases h with ⟨h0, _⟩ | ⟨cb, _, h⟩
  · omega
  · exact ⟨cb, h⟩

/-- two blocks of two types are two -/
theorem apart71 {qb cb : Nat} {cs : Array Value} {k : Int} (hq : w.heap[qb]? = some (.cells cs 71 (0, 0))) (hc : Cx w cb k) : qb ≠ cb := by
  rintro rfl
  rw [show w.heap[qb]? = _ from hc] at hq
  simp at hq

/-- turnStarving where the word is another -/
theorem turn_miss (mb qb : Nat) (s t old want now : Int) (n : Nat) (cs : Array Value) (w : World) (h : Sm w mb s t n) (hq : w.heap[qb]? = some (.cells cs 71 (0, 0))) (hqm : qb ≠ mb) (hne : ¬ s = old) :
    Calls Yba.prog 6 #[.pointer (some ⟨mb, 0, none⟩), .int .u64 old, .int .u64 want, .int .i64 now] w fun e w' => e = .returned (.bool false) ∧ Sm w' mb s now n ∧ Below mb w w' ∧ w'.heap[qb]? = some (.cells cs 71 (0, 0)) := by
  have hx : ∃ p, Mx w mb s t p := by rcases h with ⟨_, h⟩ | ⟨cb, _, _, h, _⟩ <;> exact ⟨_, h⟩
  obtain ⟨p, hp⟩ := hx
  refine (f6_miss mb s t p old want now w hp hne).mono ?_
  rintro e w' ⟨rfl, rfl⟩
  refine ⟨rfl, ?_, (Below.refl mb w).setCell (p := ⟨mb, 5, none⟩) (Nat.le_refl _) _, (heap_setCell_other w ⟨mb, 5, none⟩ qb _ hqm).trans hq⟩
  rcases h with ⟨h0, h⟩ | ⟨cb, h0, h1, h, h2⟩
  · exact .inl ⟨h0, h.set5 now⟩
  · exact .inr ⟨cb, h0, h1, h.set5 now, h2.other (a := ⟨mb, 5, none⟩) (Nat.ne_of_gt h1) _⟩

/-- turnStarving where the word is 'old' -/
theorem turn_hit (mb qb : Nat) (s t want now : Int) (n : Nat) (hn : n < 100000) (cs : Array Value) (w : World) (h : Sm w mb s t n) (hq : w.heap[qb]? = some (.cells cs 71 (0, 0))) (hqm : qb ≠ mb) :
    Calls Yba.prog 6 #[.pointer (some ⟨mb, 0, none⟩), .int .u64 s, .int .u64 want, .int .i64 now] w fun e w' => e = .returned (.bool true) ∧ Sm w' mb want now (n + 1) ∧ Below mb w w' ∧ w'.heap[qb]? = some (.cells cs 71 (0, 0)) := by
  have hql : qb < w.heap.size := (Array.getElem?_eq_some_iff.1 hq).1
  rcases h with ⟨rfl, h⟩ | ⟨cb, h0, h1, h, h2⟩
  · have hl := h.lt
    refine (f6_first mb s t want now w h).mono ?_
    rintro e w' ⟨rfl, hM, hC, hB, hk⟩
    exact ⟨rfl, .inr ⟨w.heap.size, by omega, hl, hM, hC⟩, hB, (hk qb hql hqm).trans hq⟩
  · refine (f6_again mb cb s t n (by omega) (by omega) want now w h h2 h1).mono ?_
    rintro e w' ⟨rfl, hM, hC, hB, hk⟩
    exact ⟨rfl, .inr ⟨cb, by omega, h1, hM, hC⟩, hB, (hk qb hqm (apart71 hq h2)).trans hq⟩
end Sx
end Go.Proofs.Ybulkccpc
