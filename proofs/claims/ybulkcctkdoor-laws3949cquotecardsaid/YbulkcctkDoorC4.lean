import Derived.Test.YbulkcctkDoorC3
import Derived.WalkSpells
import Derived.WalkLawsBesides
import Derived.Deep.QuietTactic
import Derived.BigQuiet
namespace Go.Proofs.YbulkcctkDoor
open Go.RowKit
namespace Cx

def dec (u : Nat) : ByteArray := ⟨(Lib.decDigits u).toArray⟩

theorem Tb.later {w w' : World} (h : Tb w) (hb : Below w.heap.size w w') : Tb w' := fun n hn => by
  have := h n hn
  unfold Lib.TabIs World.var? at this ⊢
  rw [hn] at this ⊢
  simp only [Option.bind_some] at this ⊢
  have hg : 0 < w.heap.size := by
    cases hh : w.heap[0]? with
    | none => rw [hh] at this; cases this
    | some o => exact (Array.getElem?_eq_some_iff.1 hh).1
  rw [hb.block 0 hg]
  exact this

set_option maxHeartbeats 2000000 in
set_option maxRecDepth 100000 in
theorem entryText (w : World) (eb : Nat) (mv : Option Nat) (h : ByteArray) (count : Nat) (hc64 : count < 18446744073709551616) (o : Option ByteArray) (htab : Tb w) (he : w.cell? ⟨eb, 4, none⟩ = some (.map mv))
    (hlk : ∀ w', Below w.heap.size w w' → (Instr.lookup 24 (.map mv) (.string h) true).run Ybad.prog w' = .ok (lku o) w') :
    Calls Ybad.prog 4 #[.pointer (some ⟨eb, 0, none⟩), .agg #[.string h, .int .u64 count]] w fun e w' => e = .returned (.string (o.getD (dec count))) ∧ Below w.heap.size w w' := by
  have hel : eb < w.heap.size := World.block_lt_of_cell? w _ he
  have hb1 : Below w.heap.size w (w.alloc (.cells #[.string h, .int .u64 count] 32)) := (Below.refl _ w).alloc (Nat.le_refl _) _
  have he1 := cell_later hb1 he
  have hh0 : (w.alloc (.cells #[.string h, .int .u64 count] 32)).cell? ⟨w.heap.size, 0, none⟩ = some (.string h) := by rw [cell_of_row _ _ _ _ _ _ (heap_alloc_new w _)]; rfl
  have hh1 : (w.alloc (.cells #[.string h, .int .u64 count] 32)).cell? ⟨w.heap.size, 1, none⟩ = some (.int .u64 count) := by rw [cell_of_row _ _ _ _ _ _ (heap_alloc_new w _)]; rfl
  have hlk1 : ∀ n, (Instr.lookup 24 (.map mv) (.string h) true).run Ybad.prog ((w.alloc (.cells #[.string h, .int .u64 count] 32)).drewN n) = .ok (lku o) ((w.alloc (.cells #[.string h, .int .u64 count] 32)).drewN n) := fun n => hlk _ (below_drewN hb1 n)
  have hF : ∀ n, Calls Ybad.prog 6 #[.int .u64 count, .int .i64 10] ((w.alloc (.cells #[.string h, .int .u64 count] 32)).drewN n) fun e w' => e = .returned (.string (dec count)) ∧ Below ((w.alloc (.cells #[.string h, .int .u64 count] 32)).drewN n).heap.size ((w.alloc (.cells #[.string h, .int .u64 count] 32)).drewN n) w' := fun n => formatUint count hc64 _ (htab.later (below_drewN hb1 n))
  cases o with
  | some v =>
    have hlk2 := hlk1
    simp only [lku] at hlk2
    clear hlk1 hlk
    generalize hg : w.alloc (.cells #[.string h, .int .u64 count] 32) = wg at *
    go_enter Ybad.func4, Ybad.ntmps4
    go_wp2_with fail
    go_quiet (fail)
    go_wp2
    go_ret
    exact ⟨rfl, below_drewN hb1 _⟩
  | none =>
    have hlk2 := hlk1
    simp only [lku] at hlk2
    clear hlk1 hlk
    generalize hg : w.alloc (.cells #[.string h, .int .u64 count] 32) = wg at *
    go_enter Ybad.func4, Ybad.ntmps4
    go_wp2_with fail
    go_quiet (fail)
    go_wp2_with (go_at_call 6; refine (hF _).mono ?_; rintro e w' ⟨rfl, hbx⟩)
    go_ret
    exact ⟨rfl, (below_drewN hb1 nq).trans (hbx.mono (Nat.le_trans hb1.size (Nat.le_refl _)))⟩
end Cx
end Go.Proofs.YbulkcctkDoor
