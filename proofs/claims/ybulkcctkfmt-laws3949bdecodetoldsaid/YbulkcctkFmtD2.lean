import Derived.Test.YbulkcctkFmtB4
import Derived.Test.YbulkcctkFmtD1
import Derived.Stop.CallBack
import Derived.Stop.IfaceNil
import GoSem.ClaimData
namespace Go.Proofs.YbulkcctkFmt
open Go.RowKit Go.Extern.Stop Go.Stop Go.Extern
namespace Bx

theorem call21 (args : Array Value) (w : World) : (callFunc 21 args).run Ybaf.prog w = ((FmtStop.errorf #[9, 55] #[26] args).run Ybaf.prog w).andThen fun v w' => .ok (.value v) w' :=
  run_callFunc_extern Ybaf.func21 (by kernel_rfl) (by kernel_rfl) (by kernel_rfl) (by kernel_rfl) args w
theorem guard21 (name : String) (w : World) : (FmtStop.guard name).run Ybaf.prog w = .ok () w := by kernel_rfl
theorem fmtP : FmtStop.printed? ⟨#[37, 119, 58, 32, 97, 32, 102, 114, 97, 109, 101, 32, 99, 117, 116, 32, 115, 104, 111, 114, 116]⟩ 1 = some [(0, 119, false)] := by kernel_rfl
theorem fmtR (w : World) : (FmtDoors.printed ⟨#[37, 119, 58, 32, 97, 32, 102, 114, 97, 109, 101, 32, 99, 117, 116, 32, 115, 104, 111, 114, 116]⟩ 1).run Ybaf.prog w = .ok [(0, 119, false)] w := by kernel_rfl
theorem opPlain : ∃ pl : List UInt8, ∀ (name : String) (a : Addr) (s : ByteArray) (w : World), w.cell? a = some (.string s) →
    (FmtStop.operand name true 119 false (.iface 71 (.pointer (some a)))).run Ybaf.prog w = .ok (pl, s.data.toList) w := by
  refine ⟨14 :: FmtStop.pack Ybaf.t71.str.toUTF8.data.toList, fun name a s w hc => ?_⟩
  have h1 : (typeStr 71).run Ybaf.prog w = .ok Ybaf.t71.str w := by kernel_rfl
  have d2 : Ybaf.t71.desc = .pointer 73 := rfl
  have d3 : Ybaf.t73.desc = .named "errors.errorString" 72 := rfl
  simp [FmtStop.operand, h1, d2, d3, run_load, hc]
theorem isErr71 (w : World) : (FmtDoors.textMethod 71 "Error").run Ybaf.prog w = .ok true w := by kernel_rfl
theorem ptr57 (w : World) : (FmtStop.ptrTo "fmt.wrapError").run Ybaf.prog w = .ok 57 w := by kernel_rfl
theorem elem57 (w : World) : (elemOf 57).run Ybaf.prog w = .ok 100 w := by kernel_rfl

set_option maxHeartbeats 2000000 in
set_option maxRecDepth 100000 in
theorem errorf_bad (F : Interp) (a : Addr) (s : ByteArray) (w : World) (hF : F.answers w.tape) (hs : (w.alloc (.cells #[.iface 71 (.pointer (some a))] 20)).cell? a = some (.string s)) :
    Calls Ybaf.prog 16 #[.string ⟨#[37, 119, 58, 32, 97, 32, 102, 114, 97, 109, 101, 32, 99, 117, 116, 32, 115, 104, 111, 114, 116]⟩, .slice (some ⟨w.heap.size, 0, none⟩) 1 1] (w.alloc (.cells #[.iface 71 (.pointer (some a))] 20)) fun e w' =>
      ∃ txt, e = .returned (.iface 57 (.pointer (some ⟨w.heap.size + 1, 0, none⟩))) ∧ w' = ((w.alloc (.cells #[.iface 71 (.pointer (some a))] 20)).alloc (.cells #[.string txt, .iface 71 (.pointer (some a))] 100)).drew := by
  have hF' : ∀ i name reading k range, w.tape i (.extern (word name reading k) range) = F name reading k := hF
  obtain ⟨pl, hpl⟩ := opPlain
  have hop := hpl "fmt.errorf" a s _ hs
  clear hpl
  have h21 := call21
  have hgu := guard21
  have hfp := fmtP
  have hfr := fmtR
  have hpt := ptr57
  have hel := elem57
  have her := isErr71
  go_enter Ybaf.func16, Ybaf.ntmps16
  go_wp2
  go_ret
  exact ⟨_, rfl, rfl⟩

theorem step_dec {l : List UInt8} (hs : step l = none) : (Lib.uvarintDec l).2 ≤ 0 := by
  unfold step at hs
  split at hs
  · assumption
  · cases hs

set_option maxHeartbeats 2000000 in
set_option maxRecDepth 100000 in
theorem uvarint_bad (F : Interp) (a : Addr) (s : ByteArray) (B : Nat) (w : World) (p : Option Addr) (l : List UInt8) (c : Nat) (hB : B < w.heap.size) (hF : F.answers w.tape) (hg : w.cell? ⟨1, 0, none⟩ = some (.iface 71 (.pointer (some a)))) (hst : w.cell? a = some (.string s))
    (hs : step l = none) (hb : Bs w p l) :
    Calls Ybaf.prog 23 #[.slice p l.length c] w (Ubad B w (.iface 71 (.pointer (some a)))) := by
  have hle := step_dec hs
  have hU : Calls Ybaf.prog 24 #[.slice p l.length c] w fun e w' => e = .returned (.tuple #[.int .u64 (Lib.uvarintDec l).1, .int .i64 (Lib.uvarintDec l).2]) ∧ w' = w := by
    rcases hb with rfl | ⟨g, o, rfl, hcell⟩
    · exact Ybaf.binary_Uvarint_empty p c w
    · exact Ybaf.binary_Uvarint g o l.length c l w rfl hcell
  have hal : a.block < w.heap.size := World.block_lt_of_cell? w _ hst
  have hs2 : (w.alloc (.cells #[.iface 71 (.pointer (some a))] 20)).cell? a = some (.string s) := by
    rw [World.cell?_of_block (w := w) (Below.heap_alloc w _ a.block hal)]; exact hst
  have hE := errorf_bad F a s w hF hs2
  generalize (Lib.uvarintDec l).1 = V at hU
  generalize (Lib.uvarintDec l).2 = Z at hU hle
  clear hs hb hst hs2
  go_enter Ybaf.func23, Ybaf.ntmps23
  go_wp2_with (first | (go_at_call 24; refine hU.mono ?_; rintro e w' ⟨rfl, rfl⟩) | (go_at_call 16; refine hE.mono ?_; rintro e wx ⟨txt, rfl, rfl⟩))
  go_ret3
  refine ⟨_, txt, rfl, ?_, ?_, ?_⟩
  · have hsz : (w'.alloc (.cells #[.iface 71 (.pointer (some a))] 20)).heap.size = w'.heap.size + 1 := by simp
    rw [heap_drew, ← hsz]
    exact heap_alloc_new _ _
  · omega
  · exact (((Below.refl _ _).alloc (Nat.le_refl _) _).alloc (by simp) _).drew
end Bx
end Go.Proofs.YbulkcctkFmt
