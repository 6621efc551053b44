/-
  'Rows.LawS3941AScriptSaid' proved: the row's step round 'script_in' and 'script_long' (YbulkccpcS4.lean).
-/
import Derived.Test.YbulkccpcRows
import Derived.Test.YbulkccpcS4
import Derived.WalkKit
import Derived.ProofKit
import Derived.OpenShut
import Derived.ShutString
import Derived.ChangeOld
import Derived.Deep.Slices
namespace Go.Proofs.Ybulkccpc.lawS3941AScript
open Go.ChangeShapes Go.WideShapes Go.ChangeAt Go.RowKit Go.Proofs.Ybulkccpc.Sx
set_option linter.unusedVariables false

theorem own : ownKnob Yba.prog.godebug = none := by kernel_rfl
theorem laidOut : laidOutB Yba.prog = true := by kernel_rfl
theorem cells71 : Yba.prog.cellsOf 71 = 4 := by kernel_rfl
theorem cells22 : Yba.prog.cellsOf 22 = 1 := by kernel_rfl
theorem cells2 : Yba.prog.cellsOf 2 = 1 := by kernel_rfl
theorem cells4 : Yba.prog.cellsOf 4 = 1 := by kernel_rfl

theorem list4 {α : Type} (l : List α) (h : l.length = 4) : ∃ a b c d, l = [a, b, c, d] := by
  match l, h with
  | [a, b, c, d], _ => exact ⟨a, b, c, d, rfl⟩

/-- One step's cells. -/
theorem step_cells {H : Type} {enc : TypeId × Value → H} {w : World} {base n : Nat} {spare : Nat → Bool} {held : Bool} {cs : List Value} {y : DataW H × List MemPlace} (h : DataW.trod enc Yba.prog w base spare held n 71 cs = some y) :
    ∃ (a b c : Int) (d : Bool), cs = [.int .u64 a, .int .u64 b, .int .i64 c, .bool d] := by
  obtain ⟨xs, k, _, _, hl, hlen, hf⟩ := DataW.trod_struct Yba.underlying71 h
  rw [cells71] at hl
  obtain ⟨c0, c1, c2, c3, rfl⟩ := list4 cs hl
  obtain ⟨x0, x1, x2, x3, rfl⟩ := list4 xs hlen
  have g0 : DataW.trod enc Yba.prog w base spare held k 22 (([c0, c1, c2, c3].drop 0).take (Yba.prog.cellsOf 22)) = some x0 := hf 0 _ rfl
  have g1 : DataW.trod enc Yba.prog w base spare held k 22 (([c0, c1, c2, c3].drop 1).take (Yba.prog.cellsOf 22)) = some x1 := hf 1 _ rfl
  have g2 : DataW.trod enc Yba.prog w base spare held k 2 (([c0, c1, c2, c3].drop 2).take (Yba.prog.cellsOf 2)) = some x2 := hf 2 _ rfl
  have g3 : DataW.trod enc Yba.prog w base spare held k 4 (([c0, c1, c2, c3].drop 3).take (Yba.prog.cellsOf 4)) = some x3 := hf 3 _ rfl
  rw [cells22] at g0 g1
  rw [cells2] at g2
  rw [cells4] at g3
  obtain ⟨a, e0, _, w0⟩ := DataW.trod_int (x := x0) Yba.underlying22 g0
  obtain ⟨b, e1, _, w1⟩ := DataW.trod_int (x := x1) Yba.underlying22 g1
  obtain ⟨c, e2, _, w2⟩ := DataW.trod_int (x := x2) Yba.underlying2 g2
  obtain ⟨d, e3, _⟩ := DataW.trod_bool (x := x3) Yba.underlying4 g3
  simp at e0 e1 e2 e3
  subst e0 e1 e2 e3
  exact ⟨a, b, c, d, rfl⟩

/-- The slice of steps: nothing in it, or a row of cells, four each. -/
theorem open_steps {H : Type} {enc : TypeId × Value → H} {W : World} {a0 : Option Addr} {len cap : Nat} {d : DataW H} {p : List MemPlace} (h : DataW.Trod enc Yba.prog W 0 (fun _ => true) true 69 (.slice a0 len cap) d p) :
    len = 0 ∨ ∃ (b off : Nat) (xo xw xn : Nat → Int) (xu : Nat → Bool), a0 = some ⟨b, off, none⟩ ∧
      ∀ i, i < len → W.cell? ⟨b, off + i * 4, none⟩ = some (.int .u64 (xo i)) ∧ W.cell? ⟨b, off + i * 4 + 1, none⟩ = some (.int .u64 (xw i)) ∧ W.cell? ⟨b, off + i * 4 + 2, none⟩ = some (.int .i64 (xn i)) ∧
        W.cell? ⟨b, off + i * 4 + 3, none⟩ = some (.bool (xu i)) := by
  obtain ⟨fuel, hf⟩ := h
  rcases Go.Deep.open_slice Yba.underlying69 hf with ⟨hcs, _⟩ | ⟨a, l, c, m, n, D, Pl, hcs, _, hlc, _, hm, _, hel⟩
  · simp [Value.cells] at hcs
    exact .inl hcs.2.1
  · simp [Value.cells] at hcs
    obtain ⟨rfl, rfl, rfl⟩ := hcs
    by_cases h0 : len = 0
    · exact .inl h0
    right
    simp only [if_true] at hm
    rw [cells71] at hel
    have key : ∀ i, i < len → ∃ x : Int × Int × Int × Bool, W.cell? (a.add (i * 4)) = some (.int .u64 x.1) ∧ W.cell? (a.add (i * 4 + 1)) = some (.int .u64 x.2.1) ∧ W.cell? (a.add (i * 4 + 2)) = some (.int .i64 x.2.2.1) ∧
        W.cell? (a.add (i * 4 + 3)) = some (.bool x.2.2.2) := fun i hi => by
      obtain ⟨cs', hc, ht⟩ := hel i (by omega)
      obtain ⟨x0, x1, x2, x3, rfl⟩ := step_cells ht
      obtain ⟨_, _, hcell⟩ := World.cells?_some hc
      refine ⟨(x0, x1, x2, x3), ?_, ?_, ?_, ?_⟩
      · have := hcell 0 (by omega); rw [Go.Deep.add_add] at this; exact this
      · have := hcell 1 (by omega); rw [Go.Deep.add_add] at this; exact this
      · have := hcell 2 (by omega); rw [Go.Deep.add_add] at this; exact this
      · have := hcell 3 (by omega); rw [Go.Deep.add_add] at this; exact this
    obtain ⟨F, hF⟩ := Go.Deep.choose_lt key
    obtain ⟨b, off, spot⟩ := a
    have hspot : spot = none := by
      have := (hF 0 (by omega)).1
      simpa [Addr.add] using World.cell?_spot this
    subst hspot
    refine ⟨b, off, fun i => (F i).1, fun i => (F i).2.1, fun i => (F i).2.2.1, fun i => (F i).2.2.2, rfl, fun i hi => ?_⟩
    have h := hF i hi
    simp only [add_plain, ← Nat.add_assoc] at h
    exact h

theorem walk (init : Int) (a0 : Option Addr) (len cap : Nat) (W : World) (h : len = 0 ∨ ∃ (b off : Nat) (xo xw xn : Nat → Int) (xu : Nat → Bool), a0 = some ⟨b, off, none⟩ ∧
      ∀ i, i < len → W.cell? ⟨b, off + i * 4, none⟩ = some (.int .u64 (xo i)) ∧ W.cell? ⟨b, off + i * 4 + 1, none⟩ = some (.int .u64 (xw i)) ∧ W.cell? ⟨b, off + i * 4 + 2, none⟩ = some (.int .i64 (xn i)) ∧
        W.cell? ⟨b, off + i * 4 + 3, none⟩ = some (.bool (xu i))) :
    Calls Yba.prog 4 #[.int .u64 init, .slice a0 len cap] W fun e w' => e = .returned (.bool true) ∧ Below W.heap.size W w' := by
  by_cases hl : len ≤ 1024
  · rcases h with rfl | ⟨b, off, xo, xw, xn, xu, ha, hc⟩
    · exact script_in init a0 0 cap 0 0 (fun _ => 0) (fun _ => 0) (fun _ => 0) (fun _ => false) W ⟨by omega, fun h => by omega, fun i h => by omega, fun i h => by omega, fun i h => by omega, fun i h => by omega⟩
    · exact script_in init a0 len cap b off xo xw xn xu W ⟨hl, fun _ => ha, fun i hi => (hc i hi).1, fun i hi => (hc i hi).2.1, fun i hi => (hc i hi).2.2.1, fun i hi => (hc i hi).2.2.2⟩
  · exact script_long init a0 len cap W (by omega)

/-! ### THE ROW's STEP -/
set_option maxRecDepth 100000 in
theorem lifted (os : Os) (started : os.Started) (H : Type) (enc : TypeId × Value → H) :
    ReturnsInHanded {} Yba.checked os 4 .any (Rows.lawS3941AScriptSpec.pre6 enc Yba.prog Yba.f4 Rows.lawS3941AScriptRow.domain false) (Rows.lawS3941AScriptSpec.post enc Yba.prog Yba.f4 false true false false) := by
  refine returnsInHanded_of_change (C := Yba.checked) own started (by kernel_rfl) Yba.func4
    (ChangeSpec.witness6 (enc := enc) (C := Yba.checked) false ⟨#[], #[.int .u64 0, .slice none 0 0], []⟩ 8 (by kernel_rfl) (by kernel_rfl) (by kernel_rfl) (by kernel_rfl)) ?_
  intro W base args ds gs before hval0 hW hcnd _
  have hval : ∀ (j : Nat) t v, Yba.f4.params[j]? = some t → args[j]? = some v → Value.okWide Yba.prog W .any base t v := hval0
  have hW' := hW
  obtain ⟨p, q, hA0, hV, rfl, hfz, hnd⟩ := hW
  have hA : DataW.TrodAll enc Yba.prog W 0 (fun _ => true) true Yba.f4.params.toList args.toList ds p := hA0
  rw [Yba.params4] at hA hval
  obtain ⟨v0, vs0, d0, ds0, p0, q0, hargs, rfl, rfl, h0, r0⟩ := trodAll_cons hA
  obtain ⟨v1, vs1, d1, ds1, p1, q1, rfl, rfl, rfl, h1, r1⟩ := trodAll_cons r0
  obtain ⟨rfl, rfl, rfl⟩ := trodAll_nil r1
  obtain rfl : args = #[v0, v1] := by cases args; simp_all
  obtain ⟨rfl, rfl⟩ := trodVars_none hV
  obtain ⟨a0, rfl, rfl, rfl, w0⟩ := open_int Yba.underlying22 (hval 0 22 v0 rfl rfl) h0
  obtain ⟨a1, len1, cap1, rfl⟩ := okWide_slice Yba.underlying69 (hval 1 69 v1 rfl rfl)
  have k1 := h1
  have lt1 : ∀ x ∈ p1, x.block < W.heap.size := by obtain ⟨m, hm⟩ := k1; exact DataW.trod_lt m _ _ _ hm
  have o1 := open_steps h1
  clear hA0 hval0
  refine (walk a0 a1 len1 cap1 W o1).mono fun e W' ⟨he, bel⟩ => ?_
  subst he
  exact ⟨_, rfl, _, _, _, [], _, [], hW', trodAll_mk1 (shut_bool Yba.underlying4 _),
    (trodAll_cons_mk (shut_int Yba.underlying22 w0) (trodAll_cons_mk (Below.trod laidOut (by kernel_rfl) (of_decide_eq_true (by kernel_rfl)) k1 bel lt1) trodAll_mk0)), rfl, bel.frame _, fun h => by cases h⟩

theorem over : Rows.lawS3941AScriptRow.holds Yba.pinned (OpenSpec.ofChange Rows.lawS3941AScriptSpec) :=
  OpenClaim.holds_of_wide 4 Yba.f4 rfl rfl rfl rfl rfl rfl rfl ⟨rfl, rfl, rfl, rfl, rfl⟩ rfl rfl rfl rfl rfl (by kernel_rfl) Yba.func4 (by kernel_rfl)
    (of_decide_eq_true (by kernel_rfl)) (by unfold Func.isWrapper; first | (rw [if_pos (by decide +kernel)]; kernel_rfl) | (rw [if_neg (by decide +kernel)]; exact ⟨rfl, rfl⟩))
    (fun os started H enc _ => lifted os started H enc)

end Go.Proofs.Ybulkccpc.lawS3941AScript

namespace Go.Proofs.Ybulkccpc
/-- THE STATEMENT -/
theorem lawS3941AScript_proved : Rows.LawS3941AScriptSaid := lawS3941AScript.over
end Go.Proofs.Ybulkccpc
