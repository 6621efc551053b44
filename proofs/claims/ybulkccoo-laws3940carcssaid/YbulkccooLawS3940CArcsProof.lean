/-
  'Rows.LawS3940CArcsSaid' proved: the row's step round 'law_in' (YbulkccooLawC.lean).
-/
import Derived.Test.YbulkccooLawC
import Derived.ProofKit
import Derived.OpenShut
import Derived.ShutString
import Derived.ChangeOld
import Derived.Deep.Slices
namespace Go.Proofs.Ybulkccoo.lawS3940CArcs
open Go.ChangeShapes Go.WideShapes Go.ChangeAt Go.RowKit Go.Proofs.Ybulkccoo.Gx
set_option linter.unusedVariables false

theorem own : ownKnob Yba.prog.godebug = none := by kernel_rfl
theorem laidOut : laidOutB Yba.prog = true := by kernel_rfl
theorem cells62 : Yba.prog.cellsOf 62 = 5 := by kernel_rfl
theorem cells5 : Yba.prog.cellsOf 5 = 1 := by kernel_rfl
theorem cells4 : Yba.prog.cellsOf 4 = 1 := by kernel_rfl
theorem cells22 : Yba.prog.cellsOf 22 = 1 := by kernel_rfl

theorem list5 {α : Type} (l : List α) (h : l.length = 5) : ∃ a b c d e, l = [a, b, c, d, e] := by
  match l, h with
  | [a, b, c, d, e], _ => exact ⟨a, b, c, d, e, rfl⟩

/-- One instruction's cells. -/
theorem inst_cells {H : Type} {enc : TypeId × Value → H} {w : World} {base n : Nat} {spare : Nat → Bool} {held : Bool} {cs : List Value} {y : DataW H × List MemPlace} (h : DataW.trod enc Yba.prog w base spare held n 62 cs = some y) :
    ∃ (a : Int) (b : Bool) (c d e : Int), cs = [.int .u8 a, .bool b, .int .u16 c, .int .u16 d, .int .u8 e] ∧ (Lit.int .u8 a).wf = true ∧ (Lit.int .u16 c).wf = true ∧ (Lit.int .u16 d).wf = true ∧ (Lit.int .u8 e).wf = true := by
  obtain ⟨xs, k, _, _, hl, hlen, hf⟩ := DataW.trod_struct Yba.underlying62 h
  rw [cells62] at hl
  obtain ⟨c0, c1, c2, c3, c4, rfl⟩ := list5 cs hl
  obtain ⟨x0, x1, x2, x3, x4, rfl⟩ := list5 xs hlen
  have g0 : DataW.trod enc Yba.prog w base spare held k 5 (([c0, c1, c2, c3, c4].drop 0).take (Yba.prog.cellsOf 5)) = some x0 := hf 0 _ rfl
  have g1 : DataW.trod enc Yba.prog w base spare held k 4 (([c0, c1, c2, c3, c4].drop 1).take (Yba.prog.cellsOf 4)) = some x1 := hf 1 _ rfl
  have g2 : DataW.trod enc Yba.prog w base spare held k 22 (([c0, c1, c2, c3, c4].drop 2).take (Yba.prog.cellsOf 22)) = some x2 := hf 2 _ rfl
  have g3 : DataW.trod enc Yba.prog w base spare held k 22 (([c0, c1, c2, c3, c4].drop 3).take (Yba.prog.cellsOf 22)) = some x3 := hf 3 _ rfl
  have g4 : DataW.trod enc Yba.prog w base spare held k 5 (([c0, c1, c2, c3, c4].drop 4).take (Yba.prog.cellsOf 5)) = some x4 := hf 4 _ rfl
  rw [cells5] at g0 g4
  rw [cells4] at g1
  rw [cells22] at g2 g3
  obtain ⟨a, e0, _, w0⟩ := DataW.trod_int (x := x0) Yba.underlying5 g0
  obtain ⟨b, e1, _⟩ := DataW.trod_bool (x := x1) Yba.underlying4 g1
  obtain ⟨c, e2, _, w2⟩ := DataW.trod_int (x := x2) Yba.underlying22 g2
  obtain ⟨d, e3, _, w3⟩ := DataW.trod_int (x := x3) Yba.underlying22 g3
  obtain ⟨e, e4, _, w4⟩ := DataW.trod_int (x := x4) Yba.underlying5 g4
  simp at e0 e1 e2 e3 e4
  subst e0 e1 e2 e3 e4
  exact ⟨a, b, c, d, e, rfl, w0, w2, w3, w4⟩

/-- The slice of instructions: nothing in it, or a row of cells, five each. -/
theorem open_insts {H : Type} {enc : TypeId × Value → H} {W : World} {a0 : Option Addr} {len cap : Nat} {d : DataW H} {p : List MemPlace} (h : DataW.Trod enc Yba.prog W 0 (fun _ => true) true 48 (.slice a0 len cap) d p) :
    len = 0 ∨ ∃ (b off : Nat) (xop : Nat → Int) (dt : Nat → Bool) (xou xal xse : Nat → Int), a0 = some ⟨b, off, none⟩ ∧
      ∀ i, i < len → W.cell? ⟨b, off + i * 5, none⟩ = some (.int .u8 (xop i)) ∧ W.cell? ⟨b, off + i * 5 + 1, none⟩ = some (.bool (dt i)) ∧ W.cell? ⟨b, off + i * 5 + 2, none⟩ = some (.int .u16 (xou i)) ∧
        W.cell? ⟨b, off + i * 5 + 3, none⟩ = some (.int .u16 (xal i)) ∧ W.cell? ⟨b, off + i * 5 + 4, none⟩ = some (.int .u8 (xse i)) ∧
        (Lit.int .u8 (xop i)).wf = true ∧ (Lit.int .u16 (xou i)).wf = true ∧ (Lit.int .u16 (xal i)).wf = true ∧ (Lit.int .u8 (xse i)).wf = true := by
  obtain ⟨fuel, hf⟩ := h
  rcases Go.Deep.open_slice Yba.underlying48 hf with ⟨hcs, _⟩ | ⟨a, l, c, m, n, D, Pl, hcs, _, hlc, _, hm, _, hel⟩
  · simp [Value.cells] at hcs
    exact .inl hcs.2.1
  · simp [Value.cells] at hcs
    obtain ⟨rfl, rfl, rfl⟩ := hcs
    by_cases h0 : len = 0
    · exact .inl h0
    right
    simp only [if_true] at hm
    rw [cells62] at hel
    have key : ∀ i, i < len → ∃ x : Int × Bool × Int × Int × Int, W.cell? (a.add (i * 5)) = some (.int .u8 x.1) ∧ W.cell? (a.add (i * 5 + 1)) = some (.bool x.2.1) ∧ W.cell? (a.add (i * 5 + 2)) = some (.int .u16 x.2.2.1) ∧
        W.cell? (a.add (i * 5 + 3)) = some (.int .u16 x.2.2.2.1) ∧ W.cell? (a.add (i * 5 + 4)) = some (.int .u8 x.2.2.2.2) ∧
        (Lit.int .u8 x.1).wf = true ∧ (Lit.int .u16 x.2.2.1).wf = true ∧ (Lit.int .u16 x.2.2.2.1).wf = true ∧ (Lit.int .u8 x.2.2.2.2).wf = true := fun i hi => by
      obtain ⟨cs', hc, ht⟩ := hel i (by omega)
      obtain ⟨x0, x1, x2, x3, x4, rfl, w0, w2, w3, w4⟩ := inst_cells ht
      obtain ⟨_, _, hcell⟩ := World.cells?_some hc
      refine ⟨(x0, x1, x2, x3, x4), ?_, ?_, ?_, ?_, ?_, w0, w2, w3, w4⟩
      · have := hcell 0 (by omega); rw [Go.Deep.add_add] at this; exact this
      · have := hcell 1 (by omega); rw [Go.Deep.add_add] at this; exact this
      · have := hcell 2 (by omega); rw [Go.Deep.add_add] at this; exact this
      · have := hcell 3 (by omega); rw [Go.Deep.add_add] at this; exact this
      · have := hcell 4 (by omega); rw [Go.Deep.add_add] at this; exact this
    obtain ⟨F, hF⟩ := Go.Deep.choose_lt key
    obtain ⟨b, off, spot⟩ := a
    have hspot : spot = none := by
      have := (hF 0 (by omega)).1
      simpa [Addr.add] using World.cell?_spot this
    subst hspot
    refine ⟨b, off, fun i => (F i).1, fun i => (F i).2.1, fun i => (F i).2.2.1, fun i => (F i).2.2.2.1, fun i => (F i).2.2.2.2, rfl, fun i hi => ?_⟩
    have h := hF i hi
    simp only [add_plain, ← Nat.add_assoc] at h
    exact h

/-- WHAT THE WALK IS TOLD OF A SLICE OF INTEGERS THAT CAME IN. -/
def IsRow (k : IntKind) (w : World) (a : Option Addr) (len cap : Nat) (zs : List Int) : Prop :=
  (a = none ∧ len = 0 ∧ cap = 0 ∧ zs = []) ∨
  ∃ x, a = some x ∧ len ≤ cap ∧ cap ≤ maxLen ∧ zs.length = cap ∧ (∀ i, i < zs.length → w.cell? (x.add i) = some (.int k (zs.getD i 0))) ∧ ∀ n ∈ zs, (Lit.int k n).wf = true

theorem IsRow.at {k : IntKind} {w : World} {a : Option Addr} {len cap : Nat} {zs : List Int} (h : IsRow k w a len cap zs) :
    ∃ b off : Nat, (a = some ⟨b, off, none⟩ ∨ len = 0) ∧ (∀ j, j < len → w.cell? ⟨b, off + j, none⟩ = some (.int k (zs.getD j 0))) ∧ ∀ j, j < len → (Lit.int k (zs.getD j 0)).wf = true := by
  rcases h with ⟨_, rfl, _, _⟩ | ⟨x, rfl, hl, hm, hz, hc, hw⟩
  · exact ⟨0, 0, .inr rfl, fun j hj => by omega, fun j hj => by omega⟩
  · by_cases h0 : len = 0
    · exact ⟨0, 0, .inr h0, fun j hj => by omega, fun j hj => by omega⟩
    · obtain ⟨b, off, spot⟩ := x
      have hspot : spot = none := by simpa [Addr.add] using World.cell?_spot (hc 0 (by omega))
      subst hspot
      refine ⟨b, off, .inl rfl, fun j hj => by rw [← add_plain]; exact hc j (by omega), fun j hj => hw _ ?_⟩
      rw [List.getD_eq_getElem?_getD, List.getElem?_eq_getElem (by omega)]
      exact List.getElem_mem _

set_option maxRecDepth 100000 in
/-- Out of the law's own bounds it answers true at once. -/
theorem early (a0 : Option Addr) (n c0 : Nat) (start : Int) (a2 : Option Addr) (l c2 : Nat) (a3 : Option Addr) (lw c3 : Nat) (most : Int) (w : World) (h : n = 0 ∨ 256 < n ∨ 256 < l ∨ 256 < lw) :
    Calls Yba.prog 4 #[.slice a0 n c0, .int .u16 start, .slice a2 l c2, .slice a3 lw c3, .int .i64 most] w fun e w' => e = .returned (.bool true) ∧ Below w.heap.size w w' := by
  by_cases h0 : n = 0
  · have g0 : ((n : Int) == 0) = true := by simp [h0]
    clear h h0
    go_enter Yba.func4, Yba.ntmps4
    go_wp2
    go_ret
    exact ⟨rfl, Below.refl _ _⟩
  · have g0 : ((n : Int) == 0) = false := by simp [h0]
    by_cases h1 : 256 < n
    · have g1 : decide ((256 : Int) < (n : Int)) = true := by simp; omega
      clear h
      go_enter Yba.func4, Yba.ntmps4
      go_wp2
      go_ret
      exact ⟨rfl, Below.refl _ _⟩
    · have g1 : decide ((256 : Int) < (n : Int)) = false := by simp; omega
      by_cases h2 : 256 < l
      · have g2 : decide ((256 : Int) < (l : Int)) = true := by simp; omega
        clear h
        go_enter Yba.func4, Yba.ntmps4
        go_wp2
        go_ret
        exact ⟨rfl, Below.refl _ _⟩
      · have g2 : decide ((256 : Int) < (l : Int)) = false := by simp; omega
        have g3 : decide ((256 : Int) < (lw : Int)) = true := by simp; omega
        have h3 : 256 < lw := by omega
        clear h
        go_enter Yba.func4, Yba.ntmps4
        go_wp2
        go_ret
        exact ⟨rfl, Below.refl _ _⟩

theorem emod_nat (x : Int) {n : Nat} (hn : 0 < n) : x % (n : Int) = ((x % (n : Int)).toNat : Int) ∧ (x % (n : Int)).toNat < n := by
  have h1 := Int.emod_nonneg x (b := (n : Int)) (by omega)
  have h2 := Int.emod_lt_of_pos x (b := (n : Int)) (by omega)
  omega

/-! ### STEP 1: THE WALK, for every input -/
theorem walk (a0 : Option Addr) (n c0 : Nat) (start : Int) (a2 : Option Addr) (l c2 : Nat) (zl : List Int) (a3 : Option Addr) (lw c3 : Nat) (zw : List Int) (most : Int) (w : World)
    (hI : n = 0 ∨ ∃ (b off : Nat) (xop : Nat → Int) (dt : Nat → Bool) (xou xal xse : Nat → Int), a0 = some ⟨b, off, none⟩ ∧
      ∀ i, i < n → w.cell? ⟨b, off + i * 5, none⟩ = some (.int .u8 (xop i)) ∧ w.cell? ⟨b, off + i * 5 + 1, none⟩ = some (.bool (dt i)) ∧ w.cell? ⟨b, off + i * 5 + 2, none⟩ = some (.int .u16 (xou i)) ∧
        w.cell? ⟨b, off + i * 5 + 3, none⟩ = some (.int .u16 (xal i)) ∧ w.cell? ⟨b, off + i * 5 + 4, none⟩ = some (.int .u8 (xse i)) ∧
        (Lit.int .u8 (xop i)).wf = true ∧ (Lit.int .u16 (xou i)).wf = true ∧ (Lit.int .u16 (xal i)).wf = true ∧ (Lit.int .u8 (xse i)).wf = true)
    (w1 : (Lit.int .u16 start).wf = true) (hl : IsRow .u16 w a2 l c2 zl) (hw : IsRow .u8 w a3 lw c3 zw) (w4 : (Lit.int .i64 most).wf = true) :
    Calls Yba.prog 4 #[.slice a0 n c0, .int .u16 start, .slice a2 l c2, .slice a3 lw c3, .int .i64 most] w fun e w' => e = .returned (.bool true) ∧ Below w.heap.size w w' := by
  by_cases he : n = 0 ∨ 256 < n ∨ 256 < l ∨ 256 < lw
  · exact early a0 n c0 start a2 l c2 a3 lw c3 most w he
  · obtain ⟨b, off, xop, dt, xou, xal, xse, rfl, hc⟩ := hI.resolve_left (by omega)
    obtain ⟨bL, oL, hla, hlc, hlw⟩ := hl.at
    obtain ⟨bW, oW, hwa, hwc, hww⟩ := hw.at
    have hn : 0 < n := by omega
    obtain ⟨m, hm⟩ : ∃ m, m = if lw = 0 then 1 else lw := ⟨_, rfl⟩
    have hm0 : (lw = 0 ∧ m = 1) ∨ (0 < lw ∧ m = lw) := by
      by_cases h0 : lw = 0
      · left; rw [if_pos h0] at hm; exact ⟨h0, hm⟩
      · right; rw [if_neg h0] at hm; exact ⟨by omega, hm⟩
    have hmp : 0 < m := by omega
    have hb1 := bounds_u16 w1
    have hb4 := bounds_i64 w4
    have hWb : ∀ i, 0 ≤ (if lw = 0 then (1 : Int) else if i < lw then zw.getD i 0 else 0) ∧ (if lw = 0 then (1 : Int) else if i < lw then zw.getD i 0 else 0) ≤ 255 := by
      intro i
      split
      · omega
      · split
        · rename_i h; have := bounds_u8 (hww i h); omega
        · omega
    refine law_in ⟨n, (start % (n : Int)).toNat, fun i => (xop i % (5 : Nat)).toNat, dt, fun i => (xou i % (n : Int)).toNat, fun i => (xal i % (n : Int)).toNat, fun i => (xse i % (m : Int)).toNat, l, fun j => (zl.getD j 0 % (n : Int)).toNat⟩
      m (fun i => if lw = 0 then 1 else if i < lw then zw.getD i 0 else 0) w b off c0 start a2 bL oL c2 a3 bW oW lw c3 xop xou xal xse (fun j => zl.getD j 0) most (by omega) (by omega) ?_
    refine ⟨⟨hn, by show n ≤ 256; omega, by show l ≤ 256; omega, (emod_nat start hn).2, fun i => (emod_nat (xop i) (n := 5) (by omega)).2, fun i => (emod_nat (xou i) hn).2, fun i => (emod_nat (xal i) hn).2, fun i => (emod_nat _ hn).2⟩,
      hm0, by omega, hWb, fun h0 i => by simp [h0], fun i => (emod_nat (xse i) hmp).2, by omega, (emod_nat start hn).1,
      fun i hi => (hc i hi).1, fun i hi => (hc i hi).2.1, fun i hi => (hc i hi).2.2.1, fun i hi => (hc i hi).2.2.2.1, fun i hi => (hc i hi).2.2.2.2.1,
      fun i hi => ?_, fun i hi => ?_, fun i hi => ?_, fun i hi => ?_, fun i hi => (emod_nat (xop i) (n := 5) (by omega)).1, fun i hi => (emod_nat (xou i) hn).1, fun i hi => (emod_nat (xal i) hn).1, fun i hi => (emod_nat (xse i) hmp).1,
      hla, hlc, fun j hj => ?_, fun j hj => (emod_nat _ hn).1, hwa, fun j hj => ?_⟩
    · have := bounds_u8 (hc i hi).2.2.2.2.2.1; omega
    · have := bounds_u16 (hc i hi).2.2.2.2.2.2.1; omega
    · have := bounds_u16 (hc i hi).2.2.2.2.2.2.2.1; omega
    · have := bounds_u8 (hc i hi).2.2.2.2.2.2.2.2; omega
    · have := bounds_u16 (hlw j hj); omega
    · have h1 : ¬ lw = 0 := by omega
      simp only [if_neg h1, if_pos hj]
      exact hwc j hj

/-! ### THE ROW's STEP -/
set_option maxRecDepth 100000 in
theorem lifted (os : Os) (started : os.Started) (H : Type) (enc : TypeId × Value → H) :
    ReturnsInHanded {} Yba.checked os 4 .any (Rows.lawS3940CArcsSpec.pre6 enc Yba.prog Yba.f4 Rows.lawS3940CArcsRow.domain false) (Rows.lawS3940CArcsSpec.post enc Yba.prog Yba.f4 false true false false) := by
  refine returnsInHanded_of_change (C := Yba.checked) own started (by kernel_rfl) Yba.func4
    (ChangeSpec.witness6 (enc := enc) (C := Yba.checked) false ⟨#[], #[.slice none 0 0, .int .u16 0, .slice none 0 0, .slice none 0 0, .int .i64 0], []⟩ 8 (by kernel_rfl) (by kernel_rfl) (by kernel_rfl) (by kernel_rfl)) ?_
  intro W base args ds gs before hval0 hW hcnd _
  have hval : ∀ (j : Nat) t v, Yba.f4.params[j]? = some t → args[j]? = some v → Value.okWide Yba.prog W .any base t v := hval0
  have hW' := hW
  obtain ⟨p, q, hA0, hV, rfl, hfz, hnd⟩ := hW
  have hA : DataW.TrodAll enc Yba.prog W 0 (fun _ => true) true Yba.f4.params.toList args.toList ds p := hA0
  rw [Yba.params4] at hA hval
  obtain ⟨v0, vs0, d0, ds0, p0, q0, hargs, rfl, rfl, h0, r0⟩ := trodAll_cons hA
  obtain ⟨v1, vs1, d1, ds1, p1, q1, rfl, rfl, rfl, h1, r1⟩ := trodAll_cons r0
  obtain ⟨v2, vs2, d2, ds2, p2, q2, rfl, rfl, rfl, h2, r2⟩ := trodAll_cons r1
  obtain ⟨v3, vs3, d3, ds3, p3, q3, rfl, rfl, rfl, h3, r3⟩ := trodAll_cons r2
  obtain ⟨v4, vs4, d4, ds4, p4, q4, rfl, rfl, rfl, h4, r4⟩ := trodAll_cons r3
  obtain ⟨rfl, rfl, rfl⟩ := trodAll_nil r4
  obtain rfl : args = #[v0, v1, v2, v3, v4] := by cases args; simp_all
  obtain ⟨rfl, rfl⟩ := trodVars_none hV
  obtain ⟨a0, len0, cap0, rfl⟩ := okWide_slice Yba.underlying48 (hval 0 48 v0 rfl rfl)
  have k0 := h0
  have lt0 : ∀ x ∈ p0, x.block < W.heap.size := by obtain ⟨m, hm⟩ := k0; exact DataW.trod_lt m _ _ _ hm
  have o0 := open_insts h0
  obtain ⟨a1, rfl, rfl, rfl, w1⟩ := open_int Yba.underlying22 (hval 1 22 v1 rfl rfl) h1
  obtain ⟨a2, len2, cap2, rfl⟩ := okWide_slice Yba.underlying49 (hval 2 49 v2 rfl rfl)
  have k2 := h2
  have lt2 : ∀ x ∈ p2, x.block < W.heap.size := by obtain ⟨m, hm⟩ := k2; exact DataW.trod_lt m _ _ _ hm
  obtain ⟨z2, o2⟩ : ∃ zs, IsRow .u16 W a2 len2 cap2 zs := by
    obtain ⟨fuel, hf⟩ := h2
    rcases open_ints Yba.underlying49 Yba.underlying22 (by kernel_rfl) hf with ⟨hcs, _⟩ | ⟨x, l, c, zs, hcs, _, hl, hm, hz, _, hcell, hwz⟩
    · simp [Value.cells] at hcs
      obtain ⟨rfl, rfl, rfl⟩ := hcs
      exact ⟨[], .inl ⟨rfl, rfl, rfl, rfl⟩⟩
    · simp [Value.cells] at hcs
      obtain ⟨rfl, rfl, rfl⟩ := hcs
      exact ⟨zs, .inr ⟨_, rfl, hl, hm, by simpa using hz, hcell, hwz⟩⟩
  obtain ⟨a3, len3, cap3, rfl⟩ := okWide_slice Yba.underlying50 (hval 3 50 v3 rfl rfl)
  have k3 := h3
  have lt3 : ∀ x ∈ p3, x.block < W.heap.size := by obtain ⟨m, hm⟩ := k3; exact DataW.trod_lt m _ _ _ hm
  obtain ⟨z3, o3⟩ : ∃ zs, IsRow .u8 W a3 len3 cap3 zs := by
    obtain ⟨fuel, hf⟩ := h3
    rcases open_ints Yba.underlying50 Yba.underlying5 (by kernel_rfl) hf with ⟨hcs, _⟩ | ⟨x, l, c, zs, hcs, _, hl, hm, hz, _, hcell, hwz⟩
    · simp [Value.cells] at hcs
      obtain ⟨rfl, rfl, rfl⟩ := hcs
      exact ⟨[], .inl ⟨rfl, rfl, rfl, rfl⟩⟩
    · simp [Value.cells] at hcs
      obtain ⟨rfl, rfl, rfl⟩ := hcs
      exact ⟨zs, .inr ⟨_, rfl, hl, hm, by simpa using hz, hcell, hwz⟩⟩
  obtain ⟨a4, rfl, rfl, rfl, w4⟩ := open_int Yba.underlying3 (hval 4 3 v4 rfl rfl) h4
  clear hA0 hval0
  refine (walk a0 len0 cap0 a1 a2 len2 cap2 z2 a3 len3 cap3 z3 a4 W o0 w1 o2 o3 w4).mono fun e W' ⟨he, bel⟩ => ?_
  subst he
  exact ⟨_, rfl, _, _, _, [], _, [], hW', trodAll_mk1 (shut_bool Yba.underlying4 _),
    (trodAll_cons_mk (Below.trod laidOut (by kernel_rfl) (of_decide_eq_true (by kernel_rfl)) k0 bel lt0) (trodAll_cons_mk (shut_int Yba.underlying22 w1) (trodAll_cons_mk (Below.trod laidOut (by kernel_rfl) (of_decide_eq_true (by kernel_rfl)) k2 bel lt2)
      (trodAll_cons_mk (Below.trod laidOut (by kernel_rfl) (of_decide_eq_true (by kernel_rfl)) k3 bel lt3) (trodAll_cons_mk (shut_int Yba.underlying3 w4) trodAll_mk0))))), rfl, bel.frame _, fun h => by cases h⟩

theorem over : Rows.lawS3940CArcsRow.holds Yba.pinned (OpenSpec.ofChange Rows.lawS3940CArcsSpec) :=
  OpenClaim.holds_of_wide 4 Yba.f4 rfl rfl rfl rfl rfl rfl rfl ⟨rfl, rfl, rfl, rfl, rfl⟩ rfl rfl rfl rfl rfl (by kernel_rfl) Yba.func4 (by kernel_rfl)
    (of_decide_eq_true (by kernel_rfl)) (by unfold Func.isWrapper; first | (rw [if_pos (by decide +kernel)]; kernel_rfl) | (rw [if_neg (by decide +kernel)]; exact ⟨rfl, rfl⟩))
    (fun os started H enc _ => lifted os started H enc)

end Go.Proofs.Ybulkccoo.lawS3940CArcs

namespace Go.Proofs.Ybulkccoo
/-- THE STATEMENT -/
theorem lawS3940CArcs_proved : Rows.LawS3940CArcsSaid := lawS3940CArcs.over
end Go.Proofs.Ybulkccoo
