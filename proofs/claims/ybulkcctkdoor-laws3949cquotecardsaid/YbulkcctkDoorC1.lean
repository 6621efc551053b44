import Derived.Test.YbulkcctkDoorRows
import Derived.Test.YbulkcctkDoorShelf
import Derived.Lib.ItoaMem
import Derived.Lib.AppendIntMem
import Derived.Lib.LaidTab
import Derived.WalkKit
import Derived.WalkSmall
import Derived.Below
import Derived.Laws.Rows
import Derived.Laws.IdiomStrings
namespace Go.Proofs.YbulkcctkDoor
open Go.RowKit Go.Sort Go.Shelf
namespace Cx

/-- the table of powers, under whatever name -/
def Tb (w : World) : Prop := ∀ n, Ybad.prog.globalNamed n = some 0 → Lib.TabIs Ybad.prog w n .u64 Lib.pow10Tab

theorem Tb.alloc {w : World} (h : Tb w) (o : Obj) : Tb (w.alloc o) := fun n hn => Lib.tabIs_alloc (h n hn) o

theorem holds0 (w : World) (T : TypeId) (nd : Nat) (hs : nd ≤ 24) : Holds (fun (b : UInt8) => Value.int .u8 (b.toNat : Int)) (w.alloc (.cells Lib.zeros24 T)) w.heap.size 0 (Array.replicate nd (0 : UInt8)) := fun j hj => by
  have hj' : j < nd := by simpa using hj
  refine ⟨?_, World.frozen?_alloc_new _ _ _ _⟩
  rw [World.cell?_alloc_new, Lib.zeros24_at _ (by omega), getElem!_pos _ j hj]
  simp

set_option maxHeartbeats 2000000 in
set_option maxRecDepth 100000 in
theorem formatUint_inner (u : Nat) (hu64 : u < 18446744073709551616) (w : World) (htab : Tb w) :
    Calls Ybad.prog 7 #[.int .u64 u, .int .i64 10] w fun e w' => e = .returned (.string ⟨(Lib.decDigits u).toArray⟩) ∧ Below w.heap.size w w' := by
  by_cases hs : u < 100
  · have hs' : (u : Int) < 100 := by omega
    have hw : IntKind.i64.wrap (u : Int) = (u : Int) := by rw [IntKind.wrap_i64]; omega
    go_enter Ybad.func7, Ybad.ntmps7
    go_wp2_with (go_at_call 8; refine (Ybad.internal_strconv_small u hs _).mono ?_; rintro e w' ⟨rfl, rfl⟩)
    go_ret
    exact ⟨rfl, Below.refl _ _⟩
  · have hs' : ¬ (u : Int) < 100 := by omega
    have hu1 : 1 ≤ u := by omega
    have hnd20 : Lib.nDigits u ≤ 20 := by have := Lib.numDigits_eq u hu1 hu64; split at this <;> omega
    have hal : Ybad.prog.arrayLen 40 = 24 := by kernel_rfl
    have hsl1 : ∀ W, (Instr.sliceAt 40 (.pointer (some ⟨w.heap.size, 0, none⟩)) none (some (.int .i64 (Lib.nDigits u : Int))) none).run Ybad.prog W = .ok (.slice (some ⟨w.heap.size, 0, none⟩) (Lib.nDigits u) 24) W := fun W => by
      rw [run_sliceAt_array_h W 40 ⟨w.heap.size, 0, none⟩ (by kernel_rfl) .i64 (Lib.nDigits u : Int) (by omega) (by rw [hal]; omega)]
      go_simp
    have hH0 := holds0 w 40 (Lib.nDigits u) (by omega)
    have hfmt := Ybad.internal_strconv_formatBase10 w.heap.size 0 24 u (Array.replicate (Lib.nDigits u) 0) (w.alloc (.cells Lib.zeros24 40)) hH0 (by rw [Array.size_replicate]; exact Lib.lt_pow_nDigits u) hu64 (by rw [Array.size_replicate]; omega)
    rw [Array.size_replicate] at hfmt
    have HH0 := Lib.hid hH0
    clear hH0 hal
    go_enter Ybad.func7, Ybad.ntmps7
    go_wp2_with (go_at_call 9; refine (Any.internal_strconv_numDigits Ybad.laysM284 u hu1 hu64 _ (htab.alloc _ _ (by kernel_rfl))).mono ?_; rintro e w' ⟨rfl, rfl⟩)
    go_at_call 10
    refine hfmt.mono ?_
    rintro e w' ⟨rfl, k, v', dk, rfl, hF⟩
    have hcv : (convert 38 9 (.slice (some ⟨w.heap.size, 0, none⟩) (Lib.nDigits u) 24)).run Ybad.prog ((putRow (fun (b : UInt8) => Value.int .u8 (b.toNat : Int)) (w.alloc (.cells Lib.zeros24 40)) w.heap.size 0 dk).drewN k) = .ok (.string ⟨(Lib.decDigits u).toArray⟩) ((putRow (fun (b : UInt8) => Value.int .u8 (b.toNat : Int)) (w.alloc (.cells Lib.zeros24 40)) w.heap.size 0 dk).drewN k) := by
      have h := run_convert_bytes_back (P := Ybad.prog) ((putRow (fun (b : UInt8) => Value.int .u8 (b.toNat : Int)) (w.alloc (.cells Lib.zeros24 40)) w.heap.size 0 dk).drewN k) 38 9 5 ⟨w.heap.size, 0, none⟩ 24 (Lib.decDigits u) Ybad.underlying38 Ybad.underlying5 Ybad.underlying9 (fun j hj => by
        rw [Lib.row_is_numeral hF j hj, Lib.add_plain, World.cell?_drewN]
        exact cell?_putRow (fun (b : UInt8) => Value.int .u8 (b.toNat : Int)) _ w.heap.size 0 _ dk HH0.out (by rw [hF.size, Array.size_replicate]) j (by rw [hF.size]; rw [Lib.decDigits_length] at hj; exact hj))
      rw [Lib.decDigits_length] at h
      exact h
    have hbel : Below w.heap.size w ((putRow (fun (b : UInt8) => Value.int .u8 (b.toNat : Int)) (w.alloc (.cells Lib.zeros24 40)) w.heap.size 0 dk).drewN k) := by
      obtain ⟨os', _, e⟩ := putRow_grow_new (fun (b : UInt8) => Value.int .u8 (b.toNat : Int)) w #[.cells Lib.zeros24 40] w.heap.size 0 dk (Nat.le_refl _)
      rw [Sort.alloc_eq_grow, e]
      exact Lib.below_grow w.heap.size w (Nat.le_refl _) k os'
    go_wp2
    go_ret
    exact ⟨rfl, hbel⟩

theorem formatUint (u : Nat) (hu64 : u < 18446744073709551616) (w : World) (htab : Tb w) :
    Calls Ybad.prog 6 #[.int .u64 u, .int .i64 10] w fun e w' => e = .returned (.string ⟨(Lib.decDigits u).toArray⟩) ∧ Below w.heap.size w w' := by
  have h := formatUint_inner u hu64 w htab
  go_enter Ybad.func6, Ybad.ntmps6
  go_wp2_with (go_at_call 7; refine h.mono ?_; rintro e w' ⟨rfl, hb⟩)
  go_ret
  exact ⟨rfl, hb⟩
end Cx
end Go.Proofs.YbulkcctkDoor
