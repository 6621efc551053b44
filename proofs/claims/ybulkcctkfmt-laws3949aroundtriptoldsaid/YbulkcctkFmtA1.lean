import Derived.Test.YbulkcctkFmtRows
import Derived.WalkKit
import Derived.ProofKit
import Derived.WalkSpells
import Derived.WalkLawsBesides
import Derived.Deep.QuietTactic
import Derived.BigQuiet
import Derived.WalkSmall
import Derived.Laws.IdiomStrings
import Derived.Laws.BytesArg
import Derived.Laws.Rows
import Derived.Below
namespace Go.Proofs.YbulkcctkFmt
open Go.RowKit
namespace Ax

def n0 : ByteArray := ⟨#[99, 97, 117, 115, 97, 108]⟩
def n1 : ByteArray := ⟨#[102, 105, 102, 111]⟩
def n2 : ByteArray := ⟨#[97, 114, 114, 105, 118, 97, 108]⟩
def n3 : ByteArray := ⟨#[116, 111, 116, 97, 108]⟩
theorem e01 : (n0.toList == n1.toList) = false := by kernel_rfl
theorem e02 : (n0.toList == n2.toList) = false := by kernel_rfl
theorem e03 : (n0.toList == n3.toList) = false := by kernel_rfl
theorem e12 : (n1.toList == n2.toList) = false := by kernel_rfl
theorem e10 : (n1.toList == n0.toList) = false := by kernel_rfl
theorem e20 : (n2.toList == n0.toList) = false := by kernel_rfl
theorem e21 : (n2.toList == n1.toList) = false := by kernel_rfl
theorem e30 : (n3.toList == n0.toList) = false := by kernel_rfl
theorem e31 : (n3.toList == n1.toList) = false := by kernel_rfl
theorem e32 : (n3.toList == n2.toList) = false := by kernel_rfl
/-- the names in memory -/
structure Nm (w : World) : Prop where
  c0 : w.cell? ⟨2, 0, none⟩ = some (.string n0)
  c1 : w.cell? ⟨2, 1, none⟩ = some (.string n1)
  c2 : w.cell? ⟨2, 2, none⟩ = some (.string n2)
  c3 : w.cell? ⟨2, 3, none⟩ = some (.string n3)

theorem marshal (w : World) (j : Nat) (hj : j < 4) (s : ByteArray) (hc : w.cell? ⟨2, j, none⟩ = some (.string s)) :
    Calls Ybaf.prog 10 #[.int .i64 j] w fun e w' => e = .returned (.tuple #[.slice (some ⟨w.heap.size, 0, none⟩) s.size (grownCap w s.size 0 5), .nilIface]) ∧
      w' = (w.drew.alloc (.cells (bytesRow s (grownCap w s.size 0 5)) 5 ((bytesRow s (grownCap w s.size 0 5)).size, (bytesRow s (grownCap w s.size 0 5)).size + 1))) := by
  have hcv := run_bytes_of_string (P := Ybaf.prog) w 9 22 5 s Ybaf.underlying9 Ybaf.underlying22 Ybaf.underlying5
  have h0 : (0 : Int) ≤ (j : Int) := by omega
  have h1 : (j : Int) < 4 := by omega
  generalize hg : w.drew.alloc (.cells (bytesRow s (grownCap w s.size 0 5)) 5 ((bytesRow s (grownCap w s.size 0 5)).size, (bytesRow s (grownCap w s.size 0 5)).size + 1)) = wg at *
  clear hg
  go_enter Ybaf.func10, Ybaf.ntmps10
  go_wp2
  go_ret2
  exact ⟨rfl, rfl⟩
theorem idx0 (w : World) (h : Nm w) : Calls Ybaf.prog 15 #[.slice (some ⟨2, 0, none⟩) 4 4, .string n0] w fun e w' => e = .returned (.int .i64 0) ∧ w' = w := by
  have c0 := h.c0
  go_enter Ybaf.func15, Ybaf.ntmps15
  go_wp2
  refine wp_loop_rounds 1 ?_
  rw [rounds_succ]
  go_wp2
  go_ret
  exact ⟨rfl, rfl⟩
theorem idx1 (w : World) (h : Nm w) : Calls Ybaf.prog 15 #[.slice (some ⟨2, 0, none⟩) 4 4, .string n1] w fun e w' => e = .returned (.int .i64 1) ∧ w' = w := by
  have c0 := h.c0
  have c1 := h.c1
  have e0 := e10
  go_enter Ybaf.func15, Ybaf.ntmps15
  go_wp2
  refine wp_loop_rounds 2 ?_
  rw [rounds_succ]
  go_wp2
  rw [rounds_succ]
  go_wp2
  go_ret
  exact ⟨rfl, rfl⟩
theorem idx2 (w : World) (h : Nm w) : Calls Ybaf.prog 15 #[.slice (some ⟨2, 0, none⟩) 4 4, .string n2] w fun e w' => e = .returned (.int .i64 2) ∧ w' = w := by
  have c0 := h.c0
  have c1 := h.c1
  have c2 := h.c2
  have e0 := e20
  have e1 := e21
  go_enter Ybaf.func15, Ybaf.ntmps15
  go_wp2
  refine wp_loop_rounds 3 ?_
  rw [rounds_succ]
  go_wp2
  rw [rounds_succ]
  go_wp2
  rw [rounds_succ]
  go_wp2
  go_ret
  exact ⟨rfl, rfl⟩
theorem idx3 (w : World) (h : Nm w) : Calls Ybaf.prog 15 #[.slice (some ⟨2, 0, none⟩) 4 4, .string n3] w fun e w' => e = .returned (.int .i64 3) ∧ w' = w := by
  have c0 := h.c0
  have c1 := h.c1
  have c2 := h.c2
  have c3 := h.c3
  have e0 := e30
  have e1 := e31
  have e2 := e32
  go_enter Ybaf.func15, Ybaf.ntmps15
  go_wp2
  refine wp_loop_rounds 4 ?_
  rw [rounds_succ]
  go_wp2
  rw [rounds_succ]
  go_wp2
  rw [rounds_succ]
  go_wp2
  rw [rounds_succ]
  go_wp2
  go_ret
  exact ⟨rfl, rfl⟩

theorem unmarshal (w : World) (j : Nat) (hj : j < 4) (s : ByteArray) (b mb len cap : Nat) (u : Value)
    (hcv : ∀ n, (convert 22 9 (.slice (some ⟨b, 0, none⟩) len cap)).run Ybaf.prog (w.drewN n) = .ok (.string s) (w.drewN n))
    (hI : ∀ n, Calls Ybaf.prog 15 #[.slice (some ⟨2, 0, none⟩) 4 4, .string s] (w.drewN n) fun e w' => e = .returned (.int .i64 j) ∧ w' = w.drewN n)
    (hm : w.cell? ⟨mb, 0, none⟩ = some u) (hf : w.frozen? ⟨mb, 0, none⟩ = false) :
    Calls Ybaf.prog 8 #[.pointer (some ⟨mb, 0, none⟩), .slice (some ⟨b, 0, none⟩) len cap] w fun e w' => e = .returned .nilIface ∧ ∃ k, w' = (w.drewN k).setCell ⟨mb, 0, none⟩ (.int .i64 j) := by
  have h0 : ¬ ((j : Int) < 0) := by omega
  go_enter Ybaf.func8, Ybaf.ntmps8
  go_wp2_with fail
  go_quiet ((go_at_call 15; exact Calls.quiet_of_same (hI _)))
  go_wp2
  go_ret
  exact ⟨rfl, _, rfl⟩

/-- the bytes that '[]byte(s)' has laid, read back -/
theorem back (w : World) (s : ByteArray) (b cap : Nat) (hc : ∀ i (hi : i < s.data.toList.length), w.cell? ⟨b, i, none⟩ = some (.int .u8 (s.data.toList[i].toNat : Int))) :
    (convert 22 9 (.slice (some ⟨b, 0, none⟩) s.size cap)).run Ybaf.prog w = .ok (.string s) w := by
  have h := run_convert_bytes_back (P := Ybaf.prog) w 22 9 5 ⟨b, 0, none⟩ cap s.data.toList Ybaf.underlying22 Ybaf.underlying5 Ybaf.underlying9 (fun j hj => by
    have hpl : (⟨b, 0, none⟩ : Addr).add j = ⟨b, j, none⟩ := by unfold Addr.add; split <;> simp_all
    rw [hpl]; exact hc j hj)
  rw [show s.data.toList.length = s.size from rfl] at h
  exact h

/-- the row that was laid -/
theorem laid_row (w : World) (s : ByteArray) (c : Nat) (fr : Nat × Nat) (i : Nat) (hi : i < s.data.toList.length) :
    (w.alloc (.cells (bytesRow s c) 5 fr)).cell? ⟨w.heap.size, i, none⟩ = some (.int .u8 (s.data.toList[i].toNat : Int)) := by
  rw [cell_of_row _ _ _ _ _ _ (heap_alloc_new w _)]
  have hi' : i < s.data.size := by simpa using hi
  rw [bytesRow, Array.getElem?_append_left (by simpa using hi'), Array.getElem?_map, Array.getElem?_eq_getElem hi']
  simp

theorem Nm.later {w w' : World} (h : Nm w) (hb : Below w.heap.size w w') : Nm w' :=
  ⟨cell_later hb h.c0, cell_later hb h.c1, cell_later hb h.c2, cell_later hb h.c3⟩

theorem law_j (a0 init : Int) (j : Nat) (hj : j < 4) (ha : a0 % 4 = j) (ha0 : 0 ≤ a0) (s : ByteArray) (w : World) (hc : w.cell? ⟨2, j, none⟩ = some (.string s)) (hN : Nm w)
    (hI : ∀ w, Nm w → Calls Ybaf.prog 15 #[.slice (some ⟨2, 0, none⟩) 4 4, .string s] w fun e w' => e = .returned (.int .i64 j) ∧ w' = w) :
    Calls Ybaf.prog 4 #[.int .u8 a0, .int .i64 init] w fun e w' => e = .returned (.bool true) ∧ Below w.heap.size w w' := by
  have hr : a0.tmod 4 = (j : Int) := by rw [Int.tmod_eq_emod_of_nonneg ha0]; exact ha
  have hM := marshal w j hj s hc
  have hbg : Below w.heap.size w (w.drew.alloc (.cells (bytesRow s (grownCap w s.size 0 5)) 5 ((bytesRow s (grownCap w s.size 0 5)).size, (bytesRow s (grownCap w s.size 0 5)).size + 1))) := (Below.refl _ w).drew.alloc (Nat.le_refl _) _
  have hrow := laid_row w.drew s (grownCap w s.size 0 5) ((bytesRow s (grownCap w s.size 0 5)).size, (bytesRow s (grownCap w s.size 0 5)).size + 1)
  have hsz : w.heap.size < (w.drew.alloc (.cells (bytesRow s (grownCap w s.size 0 5)) 5 ((bytesRow s (grownCap w s.size 0 5)).size, (bytesRow s (grownCap w s.size 0 5)).size + 1))).heap.size := by
    show w.heap.size < (w.heap.push _).size; simp
  generalize hg : w.drew.alloc (.cells (bytesRow s (grownCap w s.size 0 5)) 5 ((bytesRow s (grownCap w s.size 0 5)).size, (bytesRow s (grownCap w s.size 0 5)).size + 1)) = wg at *
  have hba : Below w.heap.size w (wg.alloc (.cells #[.int .i64 init] 24)) := hbg.alloc hbg.size _
  have hra : ∀ i (hi : i < s.data.toList.length), (wg.alloc (.cells #[.int .i64 init] 24)).cell? ⟨w.heap.size, i, none⟩ = some (.int .u8 (s.data.toList[i].toNat : Int)) := fun i hi => by
    rw [World.cell?_of_block (w := wg) (Below.heap_alloc wg _ w.heap.size hsz)]
    exact hrow i hi
  have hma : (wg.alloc (.cells #[.int .i64 init] 24)).cell? ⟨wg.heap.size, 0, none⟩ = some (.int .i64 init) := by
    rw [cell_of_row _ _ _ _ _ _ (heap_alloc_new wg _)]; rfl
  have hfa : (wg.alloc (.cells #[.int .i64 init] 24)).frozen? ⟨wg.heap.size, 0, none⟩ = false := frozen_of_row _ _ _ _ _ (heap_alloc_new wg _)
  have hU := unmarshal (wg.alloc (.cells #[.int .i64 init] 24)) j hj s w.heap.size wg.heap.size s.size (grownCap w s.size 0 5) _
    (fun n => back _ s _ _ (fun i hi => hra i hi)) (fun n => hI _ ((hN.later hba).later (below_drewN (Below.refl _ _) n))) hma hfa
  clear hg hra hrow
  go_enter Ybaf.func4, Ybaf.ntmps4
  go_wp2_with (first | (go_at_call 10; refine hM.mono ?_; rintro e w' ⟨rfl, rfl⟩) | (go_at_call 8; refine hU.mono ?_; rintro e w' ⟨rfl, k, rfl⟩))
  go_ret
  exact ⟨rfl, (below_drewN hba k).setCell (p := ⟨w'.heap.size, 0, none⟩) (Nat.le_of_lt hsz) _⟩

theorem law_any (a0 init : Int) (ha0 : 0 ≤ a0) (w : World) (hN : Nm w) :
    Calls Ybaf.prog 4 #[.int .u8 a0, .int .i64 init] w fun e w' => e = .returned (.bool true) ∧ Below w.heap.size w w' := by
  have h : a0 % 4 = (0 : Nat) ∨ a0 % 4 = (1 : Nat) ∨ a0 % 4 = (2 : Nat) ∨ a0 % 4 = (3 : Nat) := by omega
  rcases h with h | h | h | h
  · exact law_j a0 init 0 (by omega) h ha0 n0 w hN.c0 hN idx0
  · exact law_j a0 init 1 (by omega) h ha0 n1 w hN.c1 hN idx1
  · exact law_j a0 init 2 (by omega) h ha0 n2 w hN.c2 hN idx2
  · exact law_j a0 init 3 (by omega) h ha0 n3 w hN.c3 hN idx3
end Ax
end Go.Proofs.YbulkcctkFmt
