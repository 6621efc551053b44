import Derived.Test.YbulkcctkFmtB3
namespace Go.Proofs.YbulkcctkFmt
open Go.RowKit
namespace Bx

/-- what uvarints leaves -/
def Upost (w : World) (n : Nat) (l : List UInt8) (c : Nat) (E : Value) (e : Ending) (w' : World) : Prop :=
  (∀ vs m, decs l n = some (vs, m) → ∃ p', e = .returned (.tuple #[.slice (some ⟨w.heap.size, 0, none⟩) n n, .slice p' (l.length - m : Nat) (c - m : Nat), .nilIface]) ∧ Bs w p' (l.drop m) ∧ w'.rowIs w.heap.size 34 n (vrow vs) ∧ Below w.heap.size w w') ∧
  (decs l n = none → ∃ eb txt, e = .returned (.tuple #[.slice none 0 0, .slice none 0 0, .iface 57 (.pointer (some ⟨eb, 0, none⟩))]) ∧ w'.heap[eb]? = some (.cells #[.string txt, E] 100 (0, 0)) ∧ w.heap.size < eb ∧ Below w.heap.size w w')

theorem info34 : (Ybaf.prog.info? 34).map (fun i => (i.zero, i.size, i.bytes)) = some (some (.int .u64 0), 1, 8) := by kernel_rfl

set_option maxHeartbeats 1000000 in
theorem uvarints_any (w : World) (n : Nat) (p : Option Addr) (l : List UInt8) (c : Nat) (E : Value) (hn : n ≤ 1024) (hBs : Bs w p l) (hc : l.length ≤ c)
    (hbad : decs l n = none → ∀ (w' : World) (p' : Option Addr) (l' : List UInt8) (c' : Nat), Below w.heap.size w w' → w.heap.size < w'.heap.size → step l' = none → Bs w' p' l' → l'.length ≤ c' → Calls Ybaf.prog 23 #[.slice p' l'.length c'] w' (Ubad w.heap.size w' E)) :
    Calls Ybaf.prog 12 #[.slice p l.length c, .int .i64 n] w (Upost w n l c E) := by
  have hmk := run_make_row' (P := Ybaf.prog) 33 34 (.int .u64 0) 8 Ybaf.underlying33 info34 rfl .i64 .i64 n (by omega) (by omega)
  have hrow : (w.alloc (.cells (madeCells #[.int .u64 0] n) 34)).rowIs w.heap.size 34 n (vrow []) := (World.rowIs_made w (.int .u64 0) n 34).congr (fun i _ => rfl)
  have hD := decode_any w (w.alloc (.cells (madeCells #[.int .u64 0] n) 34)) n p l c E hn hrow ((Below.refl _ w).alloc (Nat.le_refl _) _) hBs hc hbad
  clear hrow hbad
  cases hd : decs l n with
  | some x =>
    obtain ⟨vs, m⟩ := x
    go_enter Ybaf.func12, Ybaf.ntmps12
    go_wp2_with (go_at_call 20; refine hD.mono ?_; rintro e wx ⟨hx, -⟩; obtain ⟨p', rfl, h1, h2, h3⟩ := hx vs m hd)
    go_ret3
    refine ⟨fun vs' m' h' => ?_, fun h' => by rw [hd] at h'; cases h'⟩
    rw [hd] at h'
    simp only [Option.some.injEq, Prod.mk.injEq] at h'
    obtain ⟨rfl, rfl⟩ := h'
    exact ⟨p', rfl, h1, h2, h3⟩
  | none =>
    go_enter Ybaf.func12, Ybaf.ntmps12
    go_wp2_with (go_at_call 20; refine hD.mono ?_; rintro e wx ⟨-, hx⟩; obtain ⟨eb, txt, rfl, h1, h2, h3⟩ := hx hd)
    go_ret3
    exact ⟨fun vs' m' h' => (by rw [hd] at h'; cases h'), fun _ => ⟨eb, txt, rfl, h1, h2, h3⟩⟩
end Bx
end Go.Proofs.YbulkcctkFmt
