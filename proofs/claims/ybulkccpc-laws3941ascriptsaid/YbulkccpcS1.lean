import Derived.Test.YbulkccpcRows
import Derived.WalkKit
import Derived.ProofKit
import Derived.Laws.LoneSync
import Derived.Laws.Pointers
import Derived.Laws.Rows
import Derived.Below
namespace Go.Proofs.Ybulkccpc
open Go.RowKit
namespace Sx

/-- sync/atomic.LoadPointer: what the cell holds. -/
theorem loadp {a : Addr} {p : Option Addr} {w : World} (hc : w.cell? a = some (.pointer p)) :
    (callFunc 18 #[.pointer (some a)]).run Yba.prog w = .ok (.value (.pointer p)) w := by
  rw [run_callFunc_extern (P := Yba.prog) Yba.func18 (by kernel_rfl) (by kernel_rfl) (by kernel_rfl) (e := Extern.Atomic.loadT .ptr) (by kernel_rfl)]
  change (Sem.run Yba.prog (Bind.bind (asAddr (.pointer (some a))) fun a' => _) w).andThen _ = _
  simp [Extern.Atomic.read, asAddr, hc, Result.andThen]

/-- sync/atomic.CompareAndSwapPointer from nil, where the cell holds nil: 'new' is stored; true. -/
theorem casp {a c : Addr} {w : World} (hc : w.cell? a = some (.pointer none)) (hz : w.frozen? a = false) :
    (callFunc 23 #[.pointer (some a), .pointer none, .pointer (some c)]).run Yba.prog w = .ok (.value (.bool true)) (w.setCell a (.pointer (some c))) := by
  rw [run_callFunc_extern (P := Yba.prog) Yba.func23 (by kernel_rfl) (by kernel_rfl) (by kernel_rfl) (e := Extern.Atomic.casT .ptr) (by kernel_rfl)]
  change (Sem.run Yba.prog (Bind.bind (asAddr (.pointer (some a))) fun a' => _) w).andThen _ = _
  simp [Array.getLit, Extern.Atomic.touchesFrozen, Extern.Atomic.read, asAddr, viewAt, samePointer, World.shape?_isSome_of_cell? hc, hc, hz, run_store Yba.prog w a (.pointer (some c)) .atomic rfl, Result.andThen]

/-- the mutex's cells: its word, its time, its counters -/
def mxc (s t : Int) (p : Option Addr) : Array Value :=
  #[.int .u64 s, .int .u32 0, .int .u32 0, .pointer none, .pointer none, .int .i64 t, .int .i64 0, .int .i64 0, .int .i64 0, .int .i64 0, .int .i64 0, .pointer p]
/-- the counters' cells: n turns -/
def ccc (n : Int) : Array Value :=
  #[.int .u64 0, .int .u64 0, .int .u64 0, .int .u64 n, .int .i64 0, .int .i64 0, .int .i64 0, .int .i64 0, .pointer none,
    .int .u64 0, .int .u64 0, .int .u64 0, .int .u64 0, .int .u64 0, .int .u64 0, .int .u64 0, .int .u64 0, .int .u64 0, .int .u64 0, .int .u64 0, .int .u64 0,
    .int .u64 0, .int .u64 0, .int .u64 0, .int .u64 0, .int .u64 0, .int .u64 0, .int .u64 0, .int .u64 0, .int .u64 0, .int .u64 0, .int .u64 0]

def Mx (w : World) (mb : Nat) (s t : Int) (p : Option Addr) : Prop := w.heap[mb]? = some (.cells (mxc s t p) 54 (0, 0))
def Cx (w : World) (cb : Nat) (n : Int) : Prop := w.heap[cb]? = some (.cells (ccc n) 67 (0, 0))

variable {w : World} {mb cb : Nat} {s t n : Int} {p : Option Addr}

theorem Mx.c0 (h : Mx w mb s t p) : w.cell? ⟨mb, 0, none⟩ = some (.int .u64 s) := by rw [cell_of_row w mb 0 _ _ _ h]; rfl
theorem Mx.c5 (h : Mx w mb s t p) : w.cell? ⟨mb, 5, none⟩ = some (.int .i64 t) := by rw [cell_of_row w mb 5 _ _ _ h]; rfl
theorem Mx.c11 (h : Mx w mb s t p) : w.cell? ⟨mb, 11, none⟩ = some (.pointer p) := by rw [cell_of_row w mb 11 _ _ _ h]; rfl
theorem Mx.fz (h : Mx w mb s t p) (i : Nat) : w.frozen? ⟨mb, i, none⟩ = false := frozen_of_row w mb i _ _ h
theorem Mx.set0 (h : Mx w mb s t p) (s' : Int) : Mx (w.setCell ⟨mb, 0, none⟩ (.int .u64 s')) mb s' t p := heap_setCell_same w mb 0 _ _ _ h
theorem Mx.set5 (h : Mx w mb s t p) (t' : Int) : Mx (w.setCell ⟨mb, 5, none⟩ (.int .i64 t')) mb s t' p := heap_setCell_same w mb 5 _ _ _ h
theorem Mx.set11 (h : Mx w mb s t p) (p' : Option Addr) : Mx (w.setCell ⟨mb, 11, none⟩ (.pointer p')) mb s t p' := heap_setCell_same w mb 11 _ _ _ h
theorem Mx.other (h : Mx w mb s t p) {a : Addr} (hne : mb ≠ a.block) (v : Value) : Mx (w.setCell a v) mb s t p := (heap_setCell_other w a mb v hne).trans h
theorem Mx.lt (h : Mx w mb s t p) : mb < w.heap.size := (Array.getElem?_eq_some_iff.1 h).1
theorem Mx.alloc (h : Mx w mb s t p) (o : Obj) : Mx (w.alloc o) mb s t p := (Below.heap_alloc w o mb h.lt).trans h
theorem Cx.c3 (h : Cx w cb n) : w.cell? ⟨cb, 3, none⟩ = some (.int .u64 n) := by rw [cell_of_row w cb 3 _ _ _ h]; rfl
theorem Cx.fz (h : Cx w cb n) (i : Nat) : w.frozen? ⟨cb, i, none⟩ = false := frozen_of_row w cb i _ _ h
theorem Cx.set3 (h : Cx w cb n) (n' : Int) : Cx (w.setCell ⟨cb, 3, none⟩ (.int .u64 n')) cb n' := heap_setCell_same w cb 3 _ _ _ h
theorem Cx.other (h : Cx w cb n) {a : Addr} (hne : cb ≠ a.block) (v : Value) : Cx (w.setCell a v) cb n := (heap_setCell_other w a cb v hne).trans h
theorem Cx.lt (h : Cx w cb n) : cb < w.heap.size := (Array.getElem?_eq_some_iff.1 h).1
theorem Cx.alloc (h : Cx w cb n) (o : Obj) : Cx (w.alloc o) cb n := (Below.heap_alloc w o cb h.lt).trans h
theorem Cx.shape (h : Cx w cb n) : w.shape? cb = some (67, 32) := by unfold World.shape?; rw [show w.heap[cb]? = _ from h]; rfl
theorem Cx.new (w : World) (n : Int) : Cx (w.alloc (.cells (ccc n) 67)) w.heap.size n := heap_alloc_new w _
theorem Mx.new (w : World) (s t : Int) (p : Option Addr) : Mx (w.alloc (.cells (mxc s t p) 54)) w.heap.size s t p := heap_alloc_new w _

theorem lies67 : liesAt Yba.prog Yba.prog.depth 67 (32 / Yba.prog.cellsOf 67) 0 67 1 = true := by kernel_rfl

/-- *contention out of a bare pointer: as it is -/
theorem fromUp (h : Cx w cb n) : (convert 35 47 (.pointer (some ⟨cb, 0, none⟩))).run Yba.prog w = .ok (.pointer (some ⟨cb, 0, none⟩)) w := by
  have hsh := h.shape
  obtain ⟨j, hj⟩ := Option.isSome_iff_exists.1 (show (Yba.prog.info? 67).isSome = true by kernel_rfl)
  simp [convert, run_underlying Yba.underlying35, run_underlying Yba.underlying47]
  change Sem.run Yba.prog (Bind.bind (underlying 35) fun d => Bind.bind (underlying 47) fun e => _) w = _
  simp [run_underlying Yba.underlying35, run_underlying Yba.underlying47, Conv.seenAt, viewAt, hsh, variablesAt, lies67, sizeOf, typeInfo, hj]
theorem fromUp_nil : (convert 35 47 (.pointer none)).run Yba.prog w = .ok (.pointer none) w := by kernel_rfl
theorem toUp (h : Cx w cb n) : (convert 47 35 (.pointer (some ⟨cb, 0, none⟩))).run Yba.prog w = .ok (.pointer (some ⟨cb, 0, none⟩)) w := by
  have hsh := h.shape
  obtain ⟨i, hi, hz0⟩ := Option.map_eq_some_iff.1 (show (Yba.prog.info? 67).map (fun i => decide (i.size = 0)) = some false by kernel_rfl)
  have hz : i.size ≠ 0 := by simpa using hz0
  simp [convert, run_underlying Yba.underlying35, run_underlying Yba.underlying47]
  change Sem.run Yba.prog (Bind.bind (underlying 47) fun d => Bind.bind (underlying 35) fun e => _) w = _
  simp [run_underlying Yba.underlying35, run_underlying Yba.underlying47, Conv.seenAt, viewAt, cellsIn, hsh, sizeOf, typeInfo, hi, hz]
theorem toUp_nil : (convert 47 35 (.pointer none)).run Yba.prog w = .ok (.pointer none) w := by kernel_rfl

theorem f5 (a : Addr) (y : Int) (u : Value) (w : World) (h0 : w.cell? a = some u) (f0 : w.frozen? a = false) :
    Calls Yba.prog 5 #[.pointer (some a), .int .u64 y] w fun e w' => e = .returned (.tuple #[]) ∧ w' = w.setCell a (.int .u64 y) := by
  have hs := run_call_store (P := Yba.prog) Yba.func11 (by kernel_rfl) (by kernel_rfl) (by kernel_rfl) (by kernel_rfl) (k := .u64) (y := y) h0 f0
  go_enter Yba.func5, Yba.ntmps5
  go_wp2
  go_end0
  exact ⟨rfl, rfl⟩

theorem f12 (b o : Nat) (y : Int) (u : Value) (w : World) (h0 : w.cell? ⟨b, o, none⟩ = some u) (f0 : w.frozen? ⟨b, o, none⟩ = false) :
    Calls Yba.prog 12 #[.pointer (some ⟨b, o, none⟩), .int .i64 y] w fun e w' => e = .returned (.tuple #[]) ∧ w' = w.setCell ⟨b, o, none⟩ (.int .i64 y) := by
  have hs := run_call_store (P := Yba.prog) Yba.func19 (by kernel_rfl) (by kernel_rfl) (by kernel_rfl) (by kernel_rfl) (k := .i64) (y := y) h0 f0
  go_enter Yba.func12, Yba.ntmps12
  go_wp2
  go_end0
  exact ⟨rfl, rfl⟩

theorem f7 (a : Addr) (x : Int) (w : World) (h0 : w.cell? a = some (.int .u64 x)) :
    Calls Yba.prog 7 #[.pointer (some a)] w fun e w' => e = .returned (.int .u64 x) ∧ w' = w := by
  have hs := run_call_load (P := Yba.prog) Yba.func16 (by kernel_rfl) (by kernel_rfl) (by kernel_rfl) .u64 (by kernel_rfl) h0
  go_enter Yba.func7, Yba.ntmps7
  go_wp2
  go_ret
  exact ⟨rfl, rfl⟩

theorem f8 (b o : Nat) (x : Int) (w : World) (h0 : w.cell? ⟨b, o, none⟩ = some (.int .i64 x)) :
    Calls Yba.prog 8 #[.pointer (some ⟨b, o, none⟩)] w fun e w' => e = .returned (.int .i64 x) ∧ w' = w := by
  have hs := run_call_load (P := Yba.prog) Yba.func17 (by kernel_rfl) (by kernel_rfl) (by kernel_rfl) .i64 (by kernel_rfl) h0
  go_enter Yba.func8, Yba.ntmps8
  go_wp2
  go_ret
  exact ⟨rfl, rfl⟩

theorem f10 (b o : Nat) (x : Int) (w : World) (h0 : w.cell? ⟨b, o, none⟩ = some (.int .u64 x)) :
    Calls Yba.prog 10 #[.pointer (some ⟨b, o, none⟩)] w fun e w' => e = .returned (.int .u64 x) ∧ w' = w := by
  have hs := run_call_load (P := Yba.prog) Yba.func16 (by kernel_rfl) (by kernel_rfl) (by kernel_rfl) .u64 (by kernel_rfl) h0
  go_enter Yba.func10, Yba.ntmps10
  go_wp2
  go_ret
  exact ⟨rfl, rfl⟩

theorem f9_nil (b o : Nat) (w : World) (h0 : w.cell? ⟨b, o, none⟩ = some (.pointer none)) :
    Calls Yba.prog 9 #[.pointer (some ⟨b, o, none⟩)] w fun e w' => e = .returned (.pointer none) ∧ w' = w := by
  have hs := loadp h0
  have hc := fromUp_nil (w := w)
  go_enter Yba.func9, Yba.ntmps9
  go_wp2
  go_ret
  exact ⟨rfl, rfl⟩

theorem f9_at (b o cb : Nat) (n : Int) (w : World) (h0 : w.cell? ⟨b, o, none⟩ = some (.pointer (some ⟨cb, 0, none⟩))) (h1 : Cx w cb n) :
    Calls Yba.prog 9 #[.pointer (some ⟨b, o, none⟩)] w fun e w' => e = .returned (.pointer (some ⟨cb, 0, none⟩)) ∧ w' = w := by
  have hs := loadp h0
  have hc := fromUp h1
  go_enter Yba.func9, Yba.ntmps9
  go_wp2
  go_ret
  exact ⟨rfl, rfl⟩

theorem f13_hit (a : Addr) (x y : Int) (w : World) (h0 : w.cell? a = some (.int .u64 x)) (f0 : w.frozen? a = false) :
    Calls Yba.prog 13 #[.pointer (some a), .int .u64 x, .int .u64 y] w fun e w' => e = .returned (.bool true) ∧ w' = w.setCell a (.int .u64 y) := by
  have hs := run_call_cas_hit (P := Yba.prog) Yba.func20 (by kernel_rfl) (by kernel_rfl) (by kernel_rfl) .u64 (by kernel_rfl) (y := y) h0 f0
  go_enter Yba.func13, Yba.ntmps13
  go_wp2
  go_ret
  exact ⟨rfl, rfl⟩

theorem f13_miss (a : Addr) (x o y : Int) (hne : ¬ x = o) (w : World) (h0 : w.cell? a = some (.int .u64 x)) (f0 : w.frozen? a = false) :
    Calls Yba.prog 13 #[.pointer (some a), .int .u64 o, .int .u64 y] w fun e w' => e = .returned (.bool false) ∧ w' = w := by
  have hs := run_call_cas_miss (P := Yba.prog) Yba.func20 (by kernel_rfl) (by kernel_rfl) (by kernel_rfl) .u64 (by kernel_rfl) (y := y) h0 f0 hne
  go_enter Yba.func13, Yba.ntmps13
  go_wp2
  go_ret
  exact ⟨rfl, rfl⟩

theorem f15 (b o : Nat) (x : Int) (hx0 : 0 ≤ x) (hx1 : x < 100000) (w : World) (h0 : w.cell? ⟨b, o, none⟩ = some (.int .u64 x)) (f0 : w.frozen? ⟨b, o, none⟩ = false) :
    Calls Yba.prog 15 #[.pointer (some ⟨b, o, none⟩), .int .u64 1] w fun e w' => e = .returned (.int .u64 (x + 1)) ∧ w' = w.setCell ⟨b, o, none⟩ (.int .u64 (x + 1)) := by
  have hs := run_call_add (P := Yba.prog) Yba.func22 (by kernel_rfl) (by kernel_rfl) (by kernel_rfl) .u64 (by kernel_rfl) (y := 1) (s := x + 1) h0 f0 (by
    have : IntKind.u64.wrap (x + 1) = x + 1 := by rw [IntKind.wrap_u64]; omega
    simp [Op.intArith, this])
  go_enter Yba.func15, Yba.ntmps15
  go_wp2
  go_ret
  exact ⟨rfl, rfl⟩

theorem f21 (b o cb : Nat) (n : Int) (w : World) (h0 : w.cell? ⟨b, o, none⟩ = some (.pointer none)) (f0 : w.frozen? ⟨b, o, none⟩ = false) (h1 : Cx w cb n) :
    Calls Yba.prog 21 #[.pointer (some ⟨b, o, none⟩), .pointer none, .pointer (some ⟨cb, 0, none⟩)] w fun e w' => e = .returned (.bool true) ∧ w' = w.setCell ⟨b, o, none⟩ (.pointer (some ⟨cb, 0, none⟩)) := by
  have hs := casp (c := ⟨cb, 0, none⟩) h0 f0
  have hc := toUp h1
  have hn := toUp_nil (w := w)
  go_enter Yba.func21, Yba.ntmps21
  go_wp2
  go_ret
  exact ⟨rfl, rfl⟩
end Sx
end Go.Proofs.Ybulkccpc
