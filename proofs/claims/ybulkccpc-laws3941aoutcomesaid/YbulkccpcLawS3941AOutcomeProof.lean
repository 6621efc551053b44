import Derived.Test.YbulkccpcRows
import Derived.Test.YbulkccpcS2
import Derived.WalkKit
import Derived.ProofKit
import Derived.OpenShut
import Derived.ShutString
namespace Go.Proofs.Ybulkccpc.lawS3941AOutcome
open Go.ChangeShapes Go.WideShapes Go.ChangeAt Go.RowKit
open Go.ChangeMaps (open_string shut_string)
set_option linter.unusedVariables false      -- a walk need not use every 'w<i>' (that an integer argument fits its kind)

theorem own : ownKnob Yba.prog.godebug = none := by kernel_rfl

open Sx

/-- what the law makes of its mutex: the mutex's block is the world's next; 'old' is the word -/
theorem walk_hit (a0 a2 a3 : Int) (a1 : Int) (a4 : Bool) (hm : a4 = true ∨ a0 = a1) (w : World) :
    Calls Yba.prog 3 #[.int .u64 a0, .int .u64 a1, .int .u64 a2, .int .i64 a3, .bool a4] w fun e w' => e = .returned (.bool true) ∧ Below w.heap.size w w' := by
  have m0 := Mx.new w 0 0 none
  have h5 := f5 ⟨w.heap.size, 0, none⟩ a0 _ _ m0.c0 (m0.fz 0)
  have m1 := m0.set0 a0
  have b1 : Below w.heap.size w ((w.alloc (.cells (mxc 0 0 none) 54)).setCell ⟨w.heap.size, 0, none⟩ (.int .u64 a0)) := ((Below.refl _ w).alloc (Nat.le_refl _) _).setCell (p := ⟨w.heap.size, 0, none⟩) (Nat.le_refl _) _
  generalize hw1 : (w.alloc (.cells (mxc 0 0 none) 54)).setCell ⟨w.heap.size, 0, none⟩ (.int .u64 a0) = w1 at *
  have h6 := f6_first w.heap.size a0 0 a2 a3 w1 m1
  rcases hm with rfl | rfl
  · go_enter Yba.func3, Yba.ntmps3
    go_wp2_with (first | (go_at_call 5; refine Calls.mono h5 ?_; rintro e w' ⟨rfl, rfl⟩) | (go_at_call 6; refine h6.mono ?_; rintro e w' ⟨rfl, hM, hC, hB, -⟩) |
      (go_at_call 7; refine (f7 _ _ _ hM.c0).mono ?_; rintro e w'' ⟨rfl, rfl⟩) | (go_at_call 8; refine (f8 _ _ _ _ hM.c5).mono ?_; rintro e w'' ⟨rfl, rfl⟩) |
      (go_at_call 9; refine (f9_at _ _ _ _ _ hM.c11 hC).mono ?_; rintro e w'' ⟨rfl, rfl⟩) | (go_at_call 10; refine (f10 _ _ _ _ hC.c3).mono ?_; rintro e w'' ⟨rfl, rfl⟩))
    go_ret
    exact ⟨rfl, b1.trans hB⟩
  · cases a4
    all_goals
      go_enter Yba.func3, Yba.ntmps3
      go_wp2_with (first | (go_at_call 5; refine Calls.mono h5 ?_; rintro e w' ⟨rfl, rfl⟩) | (go_at_call 6; refine h6.mono ?_; rintro e w' ⟨rfl, hM, hC, hB, -⟩) |
        (go_at_call 7; refine (f7 _ _ _ hM.c0).mono ?_; rintro e w'' ⟨rfl, rfl⟩) | (go_at_call 8; refine (f8 _ _ _ _ hM.c5).mono ?_; rintro e w'' ⟨rfl, rfl⟩) |
        (go_at_call 9; refine (f9_at _ _ _ _ _ hM.c11 hC).mono ?_; rintro e w'' ⟨rfl, rfl⟩) | (go_at_call 10; refine (f10 _ _ _ _ hC.c3).mono ?_; rintro e w'' ⟨rfl, rfl⟩))
      go_ret
      exact ⟨rfl, b1.trans hB⟩

theorem walk_miss (a0 a1 a2 a3 : Int) (hne : ¬ a0 = a1) (w : World) :
    Calls Yba.prog 3 #[.int .u64 a0, .int .u64 a1, .int .u64 a2, .int .i64 a3, .bool false] w fun e w' => e = .returned (.bool true) ∧ Below w.heap.size w w' := by
  have m0 := Mx.new w 0 0 none
  have h5 := f5 ⟨w.heap.size, 0, none⟩ a0 _ _ m0.c0 (m0.fz 0)
  have m1 := m0.set0 a0
  have b1 : Below w.heap.size w ((w.alloc (.cells (mxc 0 0 none) 54)).setCell ⟨w.heap.size, 0, none⟩ (.int .u64 a0)) := ((Below.refl _ w).alloc (Nat.le_refl _) _).setCell (p := ⟨w.heap.size, 0, none⟩) (Nat.le_refl _) _
  generalize hw1 : (w.alloc (.cells (mxc 0 0 none) 54)).setCell ⟨w.heap.size, 0, none⟩ (.int .u64 a0) = w1 at *
  have h6 := f6_miss w.heap.size a0 0 none a1 a2 a3 w1 m1 hne
  have hM := m1.set5 a3
  have hB := b1.setCell (p := ⟨w.heap.size, 5, none⟩) (Nat.le_refl _) (.int .i64 a3)
  generalize hw2 : w1.setCell ⟨w.heap.size, 5, none⟩ (.int .i64 a3) = w2 at *
  go_enter Yba.func3, Yba.ntmps3
  go_wp2_with (first | (go_at_call 5; refine Calls.mono h5 ?_; rintro e w' ⟨rfl, rfl⟩) | (go_at_call 6; refine h6.mono ?_; rintro e w' ⟨rfl, rfl⟩) |
    (go_at_call 7; refine (f7 _ _ _ hM.c0).mono ?_; rintro e w'' ⟨rfl, rfl⟩) | (go_at_call 8; refine (f8 _ _ _ _ hM.c5).mono ?_; rintro e w'' ⟨rfl, rfl⟩) |
    (go_at_call 9; refine (f9_nil _ _ _ hM.c11).mono ?_; rintro e w'' ⟨rfl, rfl⟩))
  go_ret
  exact ⟨rfl, hB⟩

theorem walk (a0 : Int) (a1 : Int) (a2 : Int) (a3 : Int) (a4 : Bool) (w : World) :
    Calls Yba.prog 3 #[.int .u64 a0, .int .u64 a1, .int .u64 a2, .int .i64 a3, .bool a4] w fun e w' => e = .returned (.bool true) ∧ Below w.heap.size w w' := by
  by_cases h : a4 = true ∨ a0 = a1
  · exact walk_hit a0 a2 a3 a1 a4 h w
  · have h4 : a4 = false := by cases a4 <;> simp_all
    subst h4
    exact walk_miss a0 a1 a2 a3 (fun e => h (.inr e)) w

/-! ### THE ROW's STEP: WRITTEN OUT: LEAVE IT -/
set_option maxRecDepth 100000 in
theorem lifted (os : Os) (started : os.Started) (H : Type) (enc : TypeId × Value → H) :
    ReturnsInHanded {} Yba.checked os 3 .any (Rows.lawS3941AOutcomeSpec.pre6 enc Yba.prog Yba.f3 Rows.lawS3941AOutcomeRow.domain false) (Rows.lawS3941AOutcomeSpec.post enc Yba.prog Yba.f3 false true false false) := by
  refine returnsInHanded_of_change (C := Yba.checked) own started (by kernel_rfl) Yba.func3
    (ChangeSpec.witness6 (enc := enc) (C := Yba.checked) false ⟨#[], #[.int .u64 0, .int .u64 0, .int .u64 0, .int .i64 0, .bool false], []⟩ 8 (by kernel_rfl) (by kernel_rfl) (by kernel_rfl) (by kernel_rfl)) ?_
  intro W base args ds gs before hval0 hW hcnd _
  have hval : ∀ (j : Nat) t v, Yba.f3.params[j]? = some t → args[j]? = some v → Value.okWide Yba.prog W .any base t v := hval0
  have hW' := hW
  obtain ⟨p, q, hA0, hV, rfl, hfz, hnd⟩ := hW
  have hA : DataW.TrodAll enc Yba.prog W 0 (fun _ => true) true Yba.f3.params.toList args.toList ds p := hA0
  rw [Yba.params3] at hA hval
  obtain ⟨v0, vs0, d0, ds0, p0, q0, hargs, rfl, rfl, h0, r0⟩ := trodAll_cons hA
  obtain ⟨v1, vs1, d1, ds1, p1, q1, rfl, rfl, rfl, h1, r1⟩ := trodAll_cons r0
  obtain ⟨v2, vs2, d2, ds2, p2, q2, rfl, rfl, rfl, h2, r2⟩ := trodAll_cons r1
  obtain ⟨v3, vs3, d3, ds3, p3, q3, rfl, rfl, rfl, h3, r3⟩ := trodAll_cons r2
  obtain ⟨v4, vs4, d4, ds4, p4, q4, rfl, rfl, rfl, h4, r4⟩ := trodAll_cons r3
  obtain ⟨rfl, rfl, rfl⟩ := trodAll_nil r4
  obtain rfl : args = #[v0, v1, v2, v3, v4] := by cases args; simp_all
  obtain ⟨rfl, rfl⟩ := trodVars_none hV
  obtain ⟨a0, rfl, rfl, rfl, w0⟩ := open_int Yba.underlying22 (hval 0 22 v0 rfl rfl) h0
  obtain ⟨a1, rfl, rfl, rfl, w1⟩ := open_int Yba.underlying22 (hval 1 22 v1 rfl rfl) h1
  obtain ⟨a2, rfl, rfl, rfl, w2⟩ := open_int Yba.underlying22 (hval 2 22 v2 rfl rfl) h2
  obtain ⟨a3, rfl, rfl, rfl, w3⟩ := open_int Yba.underlying2 (hval 3 2 v3 rfl rfl) h3
  obtain ⟨a4, rfl, rfl, rfl⟩ := open_bool Yba.underlying4 (hval 4 4 v4 rfl rfl) h4
  clear hA0 hval0
  simp only [List.append_nil] at hW'
  refine (walk a0 a1 a2 a3 a4 W).mono fun e W' ⟨he, bel⟩ => ?_
  subst he
  exact ⟨_, rfl, _, _, _, [], _, [], hW', trodAll_mk1 (shut_bool Yba.underlying4 _),
    (trodAll_cons_mk (shut_int Yba.underlying22 w0) (trodAll_cons_mk (shut_int Yba.underlying22 w1) (trodAll_cons_mk (shut_int Yba.underlying22 w2) (trodAll_cons_mk (shut_int Yba.underlying2 w3) (trodAll_cons_mk (shut_bool Yba.underlying4 _) trodAll_mk0))))), rfl, bel.frame _, fun h => by cases h⟩

theorem over : Rows.lawS3941AOutcomeRow.holds Yba.pinned (OpenSpec.ofChange Rows.lawS3941AOutcomeSpec) :=
  OpenClaim.holds_of_wide 3 Yba.f3 rfl rfl rfl rfl rfl rfl rfl ⟨rfl, rfl, rfl, rfl, rfl⟩ rfl rfl rfl rfl rfl (by kernel_rfl) Yba.func3 (by kernel_rfl)
    (of_decide_eq_true (by kernel_rfl)) (by unfold Func.isWrapper; first | (rw [if_pos (by decide +kernel)]; kernel_rfl) | (rw [if_neg (by decide +kernel)]; exact ⟨rfl, rfl⟩))
    (fun os started H enc _ => lifted os started H enc)

end Go.Proofs.Ybulkccpc.lawS3941AOutcome

namespace Go.Proofs.Ybulkccpc
/-- THE STATEMENT -/
theorem lawS3941AOutcome_proved : Rows.LawS3941AOutcomeSaid := lawS3941AOutcome.over
end Go.Proofs.Ybulkccpc
