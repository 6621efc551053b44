/-
  'Rows.LawS3949ARoundTripToldSaid' proved: the row's step round 'Ax.law_any' (YbulkcctkFmtA1.lean), then the told and tied card. fmt's texts are never asked on this road.
-/
import Derived.Test.YbulkcctkFmtA1
import Derived.Test.YbulkcctkFmtCards
import Derived.Test.YbulkcctkFmtTie
import Derived.ProofKit
import Derived.OpenShut
import Derived.OpenVars
import Derived.Stop.JoinedAt
import Derived.Stop.JoinedTold
import Derived.Stop.LaidErr
import Derived.SevenTiedAt
namespace Go.Proofs.YbulkcctkFmt.lawS3949ARoundTrip
open Go.ChangeShapes Go.WideShapes Go.ChangeAt Go.RowKit
set_option linter.unusedVariables false

theorem own : ownKnob Ybaf.prog.godebug = none := by kernel_rfl
theorem laidOut : laidOutB Ybaf.pinned.checked.prog = true := by kernel_rfl
theorem stops : Ybaf.pinned.checked.prog.stops = ["fmt.errorf"] := by kernel_rfl
theorem stopKnobs : Ybaf.pinned.checked.prog.stopKnobs = [] := by kernel_rfl
theorem quiet (os : Os) : Stop.quiet Ybaf.pinned.checked.prog os := by
  intro k hk
  rw [stopKnobs] at hk
  cases hk
theorem t2 : (Ybaf.prog.globals[2]?).map (·.type) = some 46 := by kernel_rfl
theorem cells46 : Ybaf.prog.cellsOf 46 = 4 := by kernel_rfl
theorem cells9 : Ybaf.prog.cellsOf 9 = 1 := by kernel_rfl

def cells4 : Array Value := #[.string Ax.n0, .string Ax.n1, .string Ax.n2, .string Ax.n3]

theorem str_of_trod {H : Type} {enc : TypeId × Value → H} {w : World} {base : Nat} {sp : Nat → Bool} {held : Bool} {fuel : Nat} {c : Value} {y : DataW H × List MemPlace}
    (h : DataW.trod enc Ybaf.prog w base sp held fuel 9 [c] = some y) : ∃ s : ByteArray, c = .string s ∧ y = (.lit (.string s.data.toList), []) := by
  obtain ⟨s, hc, hy, _⟩ := DataW.trod_string Ybaf.underlying9 h
  simp only [List.cons.injEq, and_true] at hc
  exact ⟨s, hc, hy⟩
theorem ba_of_list {s : ByteArray} {l : List UInt8} (h : s.data.toList = l) : s = ⟨l.toArray⟩ := bytes_inj (by rw [h])

theorem cells_of_laid {W : World} {n : String} (g2 : Ybaf.prog.globalNamed n = some 2) (h : laidMet Ybaf.prog [(n, Rows.laid_example_com_horologe_horologe_delivery_modeNames)] W) :
    W.var? Ybaf.prog n = some cells4 := by
  obtain ⟨ps, ⟨g, t, cs, fuel, p, q, hg, ht, hvar, hd, _, _⟩, _⟩ := h
  obtain rfl := Option.some.inj (g2.symm.trans hg)
  obtain rfl := Option.some.inj (t2.symm.trans ht)
  rw [hvar]
  congr 1
  obtain ⟨l⟩ := cs
  cases fuel with
  | zero => simp [DataW.trod] at hd
  | succ fuel =>
    simp only [DataW.trod, Ybaf.underlying46, cells46, cells9] at hd
    split at hd
    · rename_i hl
      obtain ⟨c0, c1, c2, c3, rfl⟩ : ∃ c0 c1 c2 c3, l = [c0, c1, c2, c3] := by
        match l, hl with
        | [a, b, c, d], _ => exact ⟨a, b, c, d, rfl⟩
      have e : List.range 4 = [0, 1, 2, 3] := rfl
      rw [e] at hd
      simp only [Option.map_eq_some_iff, List.mapM_cons, List.mapM_nil, Option.bind_eq_bind, Option.bind_eq_some_iff, Option.pure_def, Option.some.injEq] at hd
      obtain ⟨xs, ⟨y0, h0, _, ⟨y1, h1, _, ⟨y2, h2, _, ⟨y3, h3, _, rfl, rfl⟩, rfl⟩, rfl⟩, rfl⟩, hx⟩ := hd
      obtain ⟨m0, rfl, rfl⟩ := str_of_trod h0
      obtain ⟨m1, rfl, rfl⟩ := str_of_trod h1
      obtain ⟨m2, rfl, rfl⟩ := str_of_trod h2
      obtain ⟨m3, rfl, rfl⟩ := str_of_trod h3
      simp [Rows.laid_example_com_horologe_horologe_delivery_modeNames] at hx
      obtain ⟨⟨e0, e1, e2, e3⟩, _⟩ := hx
      rw [ba_of_list e0, ba_of_list e1, ba_of_list e2, ba_of_list e3]
      rfl
    · cases hd

theorem laid_met (os : Os) (args : Array Value) : laidMet Ybaf.prog Rows.lawS3949ARoundTripRow.laid (({ World.holding Ybaf.prog os ⟨#[.cells #[.string ⟨#[117, 110, 107, 110, 111, 119, 110, 32, 100, 101, 108, 105, 118, 101, 114, 121, 32, 109, 111, 100, 101]⟩] 73], #[], []⟩ with heap := ((World.holding Ybaf.prog os ⟨#[.cells #[.string ⟨#[117, 110, 107, 110, 111, 119, 110, 32, 100, 101, 108, 105, 118, 101, 114, 121, 32, 109, 111, 100, 101]⟩] 73], #[], []⟩).heap.modify 0 fun | .cells _ t frozen => .cells #[.iface 71 (.pointer (some ⟨(World.holding Ybaf.prog default ⟨#[], #[], []⟩).heap.size, 0, none⟩))] t frozen | o => o).modify 2 fun | .cells _ t frozen => .cells cells4 t frozen | o => o } : World).forCall (fun _ _ => 0) ⟨#[], args, []⟩).memory :=
  laidMet_of_run (ps := [.cell 0 0, .cell (World.holding Ybaf.prog default ⟨#[], #[], []⟩).heap.size 0, .cell 2 0, .cell 2 1, .cell 2 2, .cell 2 3]) 8 (by kernel_rfl) (by kernel_rfl) (by kernel_rfl)

theorem two_vars {H : Type} {enc : TypeId × Value → H} {P : Program} {W : World} {sp : Nat → Bool} {a b : String} {gs : List (DataW H)} {q : List MemPlace} (h : DataW.TrodVars enc P W sp [a, b] gs q) : ∃ g0 g1, gs = [g0, g1] := by
  rcases gs with _ | ⟨g0, _ | ⟨g1, _ | ⟨g2, gs⟩⟩⟩
  · exact h.elim
  · obtain ⟨_, _, _, _, _, _, _, _, _, _, hs, _⟩ := h
    exact hs.elim
  · exact ⟨g0, g1, rfl⟩
  · obtain ⟨_, _, _, _, _, _, _, _, _, _, hs, _⟩ := h
    obtain ⟨_, _, _, _, _, _, _, _, _, _, hs', _⟩ := hs
    exact hs'.elim

set_option maxRecDepth 100000 in
theorem lifted (os : Os) (started : os.Started) (H : Type) (enc : TypeId × Value → H) :
    ReturnsInTold none {} Ybaf.checked os 4 .any Input.okWide ((OpenSpec.ofChange Rows.lawS3949ARoundTripSpec).preRow enc Ybaf.prog Ybaf.f4 [] false Rows.lawS3949ARoundTripRow.laid)
      (fun F => ((OpenSpec.ofChange Rows.lawS3949ARoundTripSpec).at F).post enc Ybaf.prog Ybaf.f4 false true false false) (aloneAtReturn Ybaf.prog) nothingAlways := by
  refine returnsInTold_of_row (C := Ybaf.checked) (s := OpenSpec.ofChange Rows.lawS3949ARoundTripSpec) (by kernel_rfl) own started (by kernel_rfl) Ybaf.func4
    (OpenSpec.witness_stopped_at (enc := enc) (C := Ybaf.checked) false ({ World.holding Ybaf.prog os ⟨#[.cells #[.string ⟨#[117, 110, 107, 110, 111, 119, 110, 32, 100, 101, 108, 105, 118, 101, 114, 121, 32, 109, 111, 100, 101]⟩] 73], #[], []⟩ with heap := ((World.holding Ybaf.prog os ⟨#[.cells #[.string ⟨#[117, 110, 107, 110, 111, 119, 110, 32, 100, 101, 108, 105, 118, 101, 114, 121, 32, 109, 111, 100, 101]⟩] 73], #[], []⟩).heap.modify 0 fun | .cells _ t frozen => .cells #[.iface 71 (.pointer (some ⟨(World.holding Ybaf.prog default ⟨#[], #[], []⟩).heap.size, 0, none⟩))] t frozen | o => o).modify 2 fun | .cells _ t frozen => .cells cells4 t frozen | o => o } : World) #[.int .u8 0, .int .i64 0] rfl (by kernel_rfl) (by kernel_rfl) (by kernel_rfl)
      (OpenSpec.preRow_of_B rfl 8 (by kernel_rfl) (by kernel_rfl) (laid_met os _))) ?_
  intro F W base args ds gs before _ hF hval0 hW _ _ _ hL _
  have hval : ∀ (j : Nat) t v, Ybaf.f4.params[j]? = some t → args[j]? = some v → Value.okWide Ybaf.prog W .any base t v := hval0
  have hW' := hW
  obtain ⟨p, q, hA0, hV, rfl, hfz, hnd⟩ := hW
  have hA : DataW.TrodAll enc Ybaf.prog W 0 (fun _ => true) true Ybaf.f4.params.toList args.toList ds p := hA0
  rw [Ybaf.params4] at hA hval
  obtain ⟨v0, vs0, d0, ds0, p0, q0, hargs, rfl, rfl, h0, r0⟩ := trodAll_cons hA
  obtain ⟨v1, vs1, d1, ds1, p1, q1, rfl, rfl, rfl, h1, r1⟩ := trodAll_cons r0
  obtain ⟨rfl, rfl, rfl⟩ := trodAll_nil r1
  obtain rfl : args = #[v0, v1] := by cases args; simp_all
  obtain ⟨a0, rfl, rfl, rfl, w0⟩ := open_int Ybaf.underlying5 (hval 0 5 v0 rfl rfl) h0
  obtain ⟨a1, rfl, rfl, rfl, w1⟩ := open_int Ybaf.underlying3 (hval 1 3 v1 rfl rfl) h1
  clear hA0 hval0
  have hb8 := bounds_u8 w0
  have hL' : laidMet Ybaf.prog Rows.lawS3949ARoundTripRow.laid W := hL
  have hLt := hL'.tail
  obtain ⟨n, g2, hLn⟩ : ∃ n, Ybaf.prog.globalNamed n = some 2 ∧ laidMet Ybaf.prog [(n, Rows.laid_example_com_horologe_horologe_delivery_modeNames)] W := ⟨_, by kernel_rfl, hLt⟩
  have hvar := cells_of_laid g2 hLn
  have hN : Ax.Nm W := ⟨by simpa [cells4] using World.var?_cell g2 hvar 0, by simpa [cells4] using World.var?_cell g2 hvar 1, by simpa [cells4] using World.var?_cell g2 hvar 2, by simpa [cells4] using World.var?_cell g2 hvar 3⟩
  obtain ⟨gs0, gs1, rfl⟩ : ∃ gs0 gs1, gs = [gs0, gs1] := two_vars hV
  refine (Ax.law_any a0 a1 hb8.1 W hN).mono fun e W' ⟨he, bel⟩ => ?_
  subst he
  refine ⟨_, rfl, _, _, _, [], _, _, hW', trodAll_mk1 (shut_bool Ybaf.underlying4 _),
    (trodAll_cons_mk (shut_int Ybaf.underlying5 w0) (trodAll_cons_mk (shut_int Ybaf.underlying3 w1) trodAll_mk0)), Below.trodVars laidOut bel (by kernel_rfl) hV, bel.frame _, fun h => by cases h⟩

theorem card : Rows.LawS3949ARoundTripToldSaid :=
  Claim7.holds_of_told_tied_any_at .later 4 Ybaf.f4 "fmt.errorf" [] [] _ _ _ _ _ (by kernel_rfl) rfl rfl rfl laidOut (by kernel_rfl) rfl ⟨rfl, rfl, rfl, rfl, rfl, rfl, rfl⟩ rfl rfl (by kernel_rfl) (by kernel_rfl) Ybaf.func4 (by kernel_rfl)
    (of_decide_eq_true (by kernel_rfl)) (by unfold Func.isWrapper; first | (rw [if_pos (by decide +kernel)]; kernel_rfl) | (rw [if_neg (by decide +kernel)]; exact ⟨rfl, rfl⟩)) stops.symm rfl stopKnobs.symm (by kernel_rfl)
    (by kernel_rfl) (by kernel_rfl) (by kernel_rfl) (by kernel_rfl) (by kernel_rfl) (by kernel_rfl) (by kernel_rfl) (by kernel_rfl) (by kernel_rfl) rfl (by kernel_rfl) rfl rfl
    rfl rfl
    rfl (by kernel_rfl) (by kernel_rfl) (by kernel_rfl) (by decide) (by kernel_rfl) lawS3949ARoundTrip_row_tie
    (OpenClaim.moreEntering_of (by kernel_rfl) (by kernel_rfl) (by kernel_rfl) (by kernel_rfl) (by kernel_rfl) (by kernel_rfl) (by kernel_rfl) (by kernel_rfl) (by kernel_rfl) (by kernel_rfl))
    ⟨_, WideRow.started_initial, quiet _⟩
    (fun os started _ H enc _ => lifted os started H enc)

end Go.Proofs.YbulkcctkFmt.lawS3949ARoundTrip

namespace Go.Proofs.YbulkcctkFmt
/-- THE STATEMENT -/
theorem lawS3949ARoundTrip_proved : Rows.LawS3949ARoundTripToldSaid := lawS3949ARoundTrip.card
end Go.Proofs.YbulkcctkFmt
