/-
  'Rows.LawS3949CQuoteCardSaid' proved: the row's step round 'Cx.law_q' and 'Cx.law_q_long' (YbulkcctkDoorC5.lean), then the tied card.
-/
import Derived.Test.YbulkcctkDoorC5
import Derived.Test.YbulkcctkDoorCards
import Derived.Test.YbulkcctkDoorTie
import Derived.ProofKit
import Derived.LaidMore
import Derived.OpenShut
import Derived.ShutString
import Derived.ChangeOld
import Derived.Deep.Slices
import Derived.Stop.Joined
import Derived.Stop.LaidErr
import Derived.SevenTiedAt
namespace Go.Proofs.YbulkcctkDoor.lawS3949CQuote
open Go.ChangeShapes Go.WideShapes Go.ChangeAt Go.WideMaps Go.WideElems Go.RowKit
open Go.ChangeMaps (open_string shut_string)
set_option linter.unusedVariables false

theorem own : ownKnob Ybad.prog.godebug = none := by kernel_rfl
theorem laidOut : laidOutB Ybad.prog = true := by kernel_rfl
theorem cells9 : Ybad.prog.cellsOf 9 = 1 := by kernel_rfl

set_option maxRecDepth 100000 in
/-- The door's own heap meets the condition. -/
theorem door_met (os : Os) (args : Array Value) : laidMetH Ybad.prog Rows.lawS3949CQuoteRow.laid ((World.doorLaid Ybad.prog 24 os).forCall (fun _ _ => 0) ⟨#[], args, []⟩).memory :=
  laidMetH_of_parts3 (fuel := 8) (laidMet_of_run' 8 (by kernel_rfl) (by kernel_rfl)) (by kernel_rfl) (by kernel_rfl)

theorem tab_of_laid {W : World} (h : laidMetH Ybad.prog Rows.lawS3949CQuoteRow.laid W) : Cx.Tb W := by
  rw [MakeChecks.laidMetH_plain _ _ _ (by kernel_rfl)] at h
  intro n hn
  have h' : laidMet Ybad.prog Rows.lawS3949CQuoteRow.laid W := h
  have ht := h'.tail.tail
  obtain ⟨nm, hnm, hT⟩ : ∃ nm, Ybad.prog.globalNamed nm = some 0 ∧ laidMet Ybad.prog [(nm, Lib.tabData .u64 Lib.pow10Tab)] W := ⟨_, by kernel_rfl, ht⟩
  have hI := Lib.tabIs_of_head hnm (by kernel_rfl) Ybad.underlying47 Ybad.underlying23 (by kernel_rfl) (by kernel_rfl) hT
  unfold Lib.TabIs World.var? at hI ⊢
  rw [hnm] at hI
  rw [hn]
  exact hI

/-- a slice of strings that came in: nothing in it, or a row of cells -/
theorem open_strs {H : Type} {enc : TypeId × Value → H} {W : World} {a0 : Option Addr} {len cap : Nat} {d : DataW H} {p : List MemPlace} (h : DataW.Trod enc Ybad.prog W 0 (fun _ => true) true 22 (.slice a0 len cap) d p) :
    ∃ K : Nat → ByteArray, len = 0 ∨ ∃ b off : Nat, a0 = some ⟨b, off, none⟩ ∧ ∀ i, i < len → W.cell? ⟨b, off + i, none⟩ = some (.string (K i)) := by
  obtain ⟨fuel, hf⟩ := h
  rcases Go.Deep.open_slice Ybad.underlying22 hf with ⟨hcs, _⟩ | ⟨a, l, c, m, n, D, Pl, hcs, _, hlc, _, hm, _, hel⟩
  · simp [Value.cells] at hcs
    exact ⟨fun _ => ⟨#[]⟩, .inl hcs.2.1⟩
  · simp [Value.cells] at hcs
    obtain ⟨rfl, rfl, rfl⟩ := hcs
    by_cases h0 : len = 0
    · exact ⟨fun _ => ⟨#[]⟩, .inl h0⟩
    simp only [if_true] at hm
    rw [cells9] at hel
    have key : ∀ i, i < len → ∃ s : ByteArray, W.cell? (a.add (i * 1)) = some (.string s) := fun i hi => by
      obtain ⟨cs', hc, ht⟩ := hel i (by omega)
      obtain ⟨s, hs, _⟩ := DataW.trod_string Ybad.underlying9 ht
      subst hs
      obtain ⟨_, _, hcell⟩ := World.cells?_some hc
      have := hcell 0 (by omega)
      rw [Go.Deep.add_add] at this
      exact ⟨s, this⟩
    obtain ⟨F, hF⟩ := Go.Deep.choose_lt key
    obtain ⟨b, off, spot⟩ := a
    have hspot : spot = none := by
      have := hF 0 (by omega)
      simpa [Addr.add] using World.cell?_spot this
    subst hspot
    refine ⟨F, .inr ⟨b, off, rfl, fun i hi => ?_⟩⟩
    have h := hF i hi
    simp only [add_plain, Nat.mul_one] at h
    exact h

theorem walk (W : World) (a0 : Option Addr) (l0 c0 : Nat) (a1 : Option Addr) (l1 c1 : Nat) (K V : Nat → ByteArray) (host : ByteArray) (count : Int) (hc0 : 0 ≤ count) (hc1 : count < 18446744073709551616) (pick : Int) (hp0 : 0 ≤ pick) (hp1 : pick ≤ 255) (nm : Bool)
    (h0 : l0 = 0 ∨ ∃ b off : Nat, a0 = some ⟨b, off, none⟩ ∧ ∀ i, i < l0 → W.cell? ⟨b, off + i, none⟩ = some (.string (K i)))
    (h1 : l1 = 0 ∨ ∃ b off : Nat, a1 = some ⟨b, off, none⟩ ∧ ∀ i, i < l1 → W.cell? ⟨b, off + i, none⟩ = some (.string (V i))) (ht : Cx.Tb W) :
    Calls Ybad.prog 3 #[.slice a0 l0 c0, .slice a1 l1 c1, .string host, .int .u64 count, .int .u8 pick, .bool nm] W fun e w' => e = .returned (.bool true) ∧ Below W.heap.size W w' := by
  by_cases hl : l0 ≤ 1024 ∧ l1 ≤ 1024
  · obtain ⟨u, rfl⟩ : ∃ u : Nat, count = (u : Int) := ⟨count.toNat, by omega⟩
    exact Cx.law_q W a0 l0 c0 a1 l1 c1 K V host u (by omega) pick hp0 hp1 nm ⟨hl.1, hl.2, h0, h1, ht⟩
  · exact Cx.law_q_long W a0 l0 c0 a1 l1 c1 host count pick nm (by omega)

set_option maxRecDepth 100000 in
theorem lifted (os : Os) (started : os.Started) (H : Type) (enc : TypeId × Value → H) :
    ReturnsInHanded {} Ybad.checked os 3 .any (fun w args => (Rows.lawS3949CQuoteSpec.pre enc Ybad.prog Ybad.f3 [] false w args ∧ laidMetH Ybad.prog Rows.lawS3949CQuoteRow.laid w) ∧ sizedMet enc Ybad.prog Ybad.f3 (OpenSpec.ofChange Rows.lawS3949CQuoteSpec) false w args)
      (Rows.lawS3949CQuoteSpec.post enc Ybad.prog Ybad.f3 false true false false) := by
  refine returnsInHanded_of_change_and (C := Ybad.checked) (X := fun w _ => laidMetH Ybad.prog Rows.lawS3949CQuoteRow.laid w) (fun _ _ _ hh h => h.of_heap hh) own started (by kernel_rfl) Ybad.func3
    (ChangeSpec.witness_shaped (enc := enc) (C := Ybad.checked) (os := os) (X := fun w _ => laidMetH Ybad.prog Rows.lawS3949CQuoteRow.laid w) false (World.doorLaid Ybad.prog 24 os) #[.slice none 0 0, .slice none 0 0, .string ⟨#[]⟩, .int .u64 0, .int .u8 0, .bool false] 8 rfl (World.shaped_of_RefB (by kernel_rfl) (by kernel_rfl)) (by kernel_rfl) (by kernel_rfl) (by kernel_rfl) (door_met os _)) ?_
  intro W base args ds gs before hval0 hW _ _ hL _
  have hval : ∀ (j : Nat) t v, Ybad.f3.params[j]? = some t → args[j]? = some v → Value.okWide Ybad.prog W .any base t v := hval0
  have hW' := hW
  obtain ⟨p, q, hA0, hV, rfl, hfz, hnd⟩ := hW
  have hA : DataW.TrodAll enc Ybad.prog W 0 (fun _ => true) true Ybad.f3.params.toList args.toList ds p := hA0
  rw [Ybad.params3] at hA hval
  obtain ⟨v0, vs0, d0, ds0, p0, q0, hargs, rfl, rfl, h0, r0⟩ := trodAll_cons hA
  obtain ⟨v1, vs1, d1, ds1, p1, q1, rfl, rfl, rfl, h1, r1⟩ := trodAll_cons r0
  obtain ⟨v2, vs2, d2, ds2, p2, q2, rfl, rfl, rfl, h2, r2⟩ := trodAll_cons r1
  obtain ⟨v3, vs3, d3, ds3, p3, q3, rfl, rfl, rfl, h3, r3⟩ := trodAll_cons r2
  obtain ⟨v4, vs4, d4, ds4, p4, q4, rfl, rfl, rfl, h4, r4⟩ := trodAll_cons r3
  obtain ⟨v5, vs5, d5, ds5, p5, q5, rfl, rfl, rfl, h5, r5⟩ := trodAll_cons r4
  obtain ⟨rfl, rfl, rfl⟩ := trodAll_nil r5
  obtain rfl : args = #[v0, v1, v2, v3, v4, v5] := by cases args; simp_all
  obtain ⟨rfl, rfl⟩ := trodVars_none hV
  obtain ⟨a0, l0, c0, rfl⟩ := okWide_slice Ybad.underlying22 (hval 0 22 v0 rfl rfl)
  obtain ⟨a1, l1, c1, rfl⟩ := okWide_slice Ybad.underlying22 (hval 1 22 v1 rfl rfl)
  obtain ⟨host, rfl, rfl, rfl, ws⟩ := open_string Ybad.underlying9 (hval 2 9 v2 rfl rfl) h2
  obtain ⟨a3, rfl, rfl, rfl, w3⟩ := open_int Ybad.underlying23 (hval 3 23 v3 rfl rfl) h3
  obtain ⟨a4, rfl, rfl, rfl, w4⟩ := open_int Ybad.underlying5 (hval 4 5 v4 rfl rfl) h4
  obtain ⟨a5, rfl, rfl, rfl⟩ := open_bool Ybad.underlying4 (hval 5 4 v5 rfl rfl) h5
  have lt0 : ∀ x ∈ p0, x.block < W.heap.size := by obtain ⟨m, hm⟩ := h0; exact DataW.trod_lt m _ _ _ hm
  have lt1 : ∀ x ∈ p1, x.block < W.heap.size := by obtain ⟨m, hm⟩ := h1; exact DataW.trod_lt m _ _ _ hm
  obtain ⟨K, o0⟩ := open_strs h0
  obtain ⟨V, o1⟩ := open_strs h1
  clear hA0 hval0
  have hb3 : 0 ≤ a3 ∧ a3 < 18446744073709551616 := by
    have e1 : IntKind.u64.min = 0 := rfl
    have e2 : IntKind.u64.max = 18446744073709551615 := rfl
    simp [Lit.wf, e1, e2] at w3
    omega
  have hb8 := bounds_u8 w4
  refine (walk W a0 l0 c0 a1 l1 c1 K V host a3 hb3.1 hb3.2 a4 hb8.1 hb8.2 a5 o0 o1 (tab_of_laid hL)).mono fun e W' ⟨he, bel⟩ => ?_
  subst he
  exact ⟨_, rfl, _, _, _, [], _, [], hW', trodAll_mk1 (shut_bool Ybad.underlying4 _),
    (trodAll_cons_mk (Below.trod laidOut (by kernel_rfl) (of_decide_eq_true (by kernel_rfl)) h0 bel lt0) (trodAll_cons_mk (Below.trod laidOut (by kernel_rfl) (of_decide_eq_true (by kernel_rfl)) h1 bel lt1)
      (trodAll_cons_mk (shut_string Ybad.underlying9 ws) (trodAll_cons_mk (shut_int Ybad.underlying23 w3) (trodAll_cons_mk (shut_int Ybad.underlying5 w4) (trodAll_cons_mk (shut_bool Ybad.underlying4 _) trodAll_mk0)))))), rfl, bel.frame _, fun h => by cases h⟩

theorem over : Rows.lawS3949CQuoteRow.holds Ybad.pinned (OpenSpec.ofChange Rows.lawS3949CQuoteSpec) :=
  OpenClaim.holds_of_wide 3 Ybad.f3 rfl rfl rfl rfl rfl rfl rfl ⟨rfl, rfl, rfl, rfl, rfl⟩ rfl rfl rfl rfl rfl (by kernel_rfl) Ybad.func3 (by kernel_rfl)
    (of_decide_eq_true (by kernel_rfl)) (by unfold Func.isWrapper; first | (rw [if_pos (by decide +kernel)]; kernel_rfl) | (rw [if_neg (by decide +kernel)]; exact ⟨rfl, rfl⟩))
    (fun os started H enc _ => lifted os started H enc)

theorem card : Rows.LawS3949CQuoteCardSaid :=
  Claim7.holds_tied_plain_at .later [] [.data, .data, .data] true _ false
    over (fun _ h => by cases h) (by kernel_rfl) (fun _ h => by cases h) lawS3949CQuote_row_tie rfl ⟨rfl, rfl⟩ (by kernel_rfl) rfl
    (fun f fn hf hfn => by
      obtain rfl : f = 3 := Option.some.inj ((show Ybad.prog.funcNamed Rows.lawS3949CQuoteRow.func = some 3 by kernel_rfl).symm.trans hf) |>.symm
      obtain rfl : fn = Ybad.f3 := (Option.some.inj (Ybad.func3.symm.trans hfn)).symm
      exact ⟨by kernel_rfl, fun j t ht => by
        rw [Ybad.params3] at ht
        have hm : t ∈ [22, 22, 9, 23, 5, 4] := by simpa using Array.mem_of_getElem? ht
        have hall : ([22, 22, 9, 23, 5, 4].all fun u => !Ybad.prog.wantsStandIn u) = true := by kernel_rfl
        exact (show Ybad.prog.wantsStandIn t = false by simpa using List.all_eq_true.1 hall t hm)⟩)
    (by kernel_rfl)
end Go.Proofs.YbulkcctkDoor.lawS3949CQuote

namespace Go.Proofs.YbulkcctkDoor
/-- THE STATEMENT -/
theorem lawS3949CQuote_proved : Rows.LawS3949CQuoteCardSaid := lawS3949CQuote.card
end Go.Proofs.YbulkcctkDoor
