/-
  'Rows.LawS3949BDecodeToldSaid' proved: the row's step round 'Bx.law_dec' and 'Bx.law_dec_long' (YbulkcctkFmtD4.lean), then the told and tied card. Of fmt's texts nothing is asked but that the error wraps the variable's.
-/
import Derived.Test.YbulkcctkFmtD4
import Derived.Test.YbulkcctkFmtCards
import Derived.Test.YbulkcctkFmtTie
import Derived.ProofKit
import Derived.OpenShut
import Derived.OpenVars
import Derived.ChangeOld
import Derived.Stop.JoinedAt
import Derived.Stop.JoinedTold
import Derived.Stop.LaidErr
import Derived.SevenTiedAt
namespace Go.Proofs.YbulkcctkFmt.lawS3949BDecode
open Go.ChangeShapes Go.WideShapes Go.ChangeAt Go.RowKit
set_option linter.unusedVariables false

theorem own : ownKnob Ybaf.prog.godebug = none := by kernel_rfl
theorem laidOut : laidOutB Ybaf.pinned.checked.prog = true := by kernel_rfl
theorem stops : Ybaf.pinned.checked.prog.stops = ["fmt.errorf"] := by kernel_rfl
theorem stopKnobs : Ybaf.pinned.checked.prog.stopKnobs = [] := by kernel_rfl
theorem quiet (os : Os) : Stop.quiet Ybaf.pinned.checked.prog os := by
  intro k hk
  rw [stopKnobs] at hk
  cases hk

theorem laid_met (os : Os) (args : Array Value) : laidMet Ybaf.prog Rows.lawS3949BDecodeRow.laid ((({ World.holding Ybaf.prog os ⟨#[.cells #[.string ⟨#[110, 111, 116, 32, 97, 32, 109, 101, 115, 115, 97, 103, 101, 32, 111, 102, 32, 116, 104, 101, 32, 103, 114, 111, 117, 112]⟩] 73], #[], []⟩ with heap := (World.holding Ybaf.prog os ⟨#[.cells #[.string ⟨#[110, 111, 116, 32, 97, 32, 109, 101, 115, 115, 97, 103, 101, 32, 111, 102, 32, 116, 104, 101, 32, 103, 114, 111, 117, 112]⟩] 73], #[], []⟩).heap.modify 1 fun | .cells _ t frozen => .cells #[.iface 71 (.pointer (some ⟨(World.holding Ybaf.prog default ⟨#[], #[], []⟩).heap.size, 0, none⟩))] t frozen | o => o } : World)).forCall (fun _ _ => 0) ⟨#[], args, []⟩).memory :=
  laidMet_of_run (ps := [.cell 1 0, .cell (World.holding Ybaf.prog default ⟨#[], #[], []⟩).heap.size 0]) 8 (by kernel_rfl) (by kernel_rfl) (by kernel_rfl)

theorem one_var {H : Type} {enc : TypeId × Value → H} {P : Program} {W : World} {sp : Nat → Bool} {a : String} {gs : List (DataW H)} {q : List MemPlace} (h : DataW.TrodVars enc P W sp [a] gs q) : ∃ g0, gs = [g0] := by
  rcases gs with _ | ⟨g0, _ | ⟨g1, gs⟩⟩
  · exact h.elim
  · exact ⟨g0, rfl⟩
  · obtain ⟨_, _, _, _, _, _, _, _, _, _, hs, _⟩ := h
    exact hs.elim

theorem row71 {nm : String} (hnm : String.singleton (Char.ofNat 42) ++ "errors.errorString" = nm) (u : TypeId) (hu : Ybaf.prog.typeName? 3 u = some nm) : u = 71 := by
  subst hnm
  exact typeName_ptr_named (nm := "errors.errorString") (tp := 71) (by kernel_rfl) (by kernel_rfl) (by decide) u hu

/-- what is known of a slice of integers that came in -/
def IsRow (k : IntKind) (w : World) (a : Option Addr) (len cap : Nat) (zs : List Int) : Prop :=
  (a = none ∧ len = 0 ∧ cap = 0 ∧ zs = []) ∨
  ∃ x, a = some x ∧ len ≤ cap ∧ cap ≤ maxLen ∧ zs.length = cap ∧ (∀ i, i < zs.length → w.cell? (x.add i) = some (.int k (zs.getD i 0))) ∧ ∀ n ∈ zs, (Lit.int k n).wf = true

theorem IsRow.at {k : IntKind} {w : World} {a : Option Addr} {len cap : Nat} {zs : List Int} (h : IsRow k w a len cap zs) :
    ∃ xs : List Int, xs.length = len ∧ (xs = [] ∨ ∃ b off : Nat, a = some ⟨b, off, none⟩ ∧ ∀ j (hj : j < xs.length), w.cell? ⟨b, off + j, none⟩ = some (.int k xs[j])) ∧ (∀ n ∈ xs, (Lit.int k n).wf = true) ∧ (a = none → xs = [] ∧ cap = 0) := by
  rcases h with ⟨rfl, rfl, rfl, rfl⟩ | ⟨x, rfl, hl, hm, hz, hc, hw⟩
  · exact ⟨[], rfl, .inl rfl, (fun n hn => by cases hn), fun _ => ⟨rfl, rfl⟩⟩
  · refine ⟨zs.take len, by simp; omega, ?_, fun n hn => hw n (List.mem_of_mem_take hn), fun h => by cases h⟩
    by_cases h0 : len = 0
    · left; subst h0; simp
    · right
      obtain ⟨b, off, spot⟩ := x
      have hspot : spot = none := by simpa [Addr.add] using World.cell?_spot (hc 0 (by omega))
      subst hspot
      refine ⟨b, off, rfl, fun j hj => ?_⟩
      have hj' : j < zs.length := by simp at hj; omega
      rw [← add_plain, hc j hj', List.getElem_take]
      simp [List.getD, hj']

theorem open_row {H : Type} {enc : TypeId × Value → H} {W : World} {a : Option Addr} {len cap : Nat} {d : DataW H} {p : List MemPlace} {t e : TypeId} {k : IntKind} (ht : Ybaf.prog.underlying t = some (.slice e)) (he : Ybaf.prog.underlying e = some (.int k)) (hce : Ybaf.prog.cellsOf e = 1)
    (h : DataW.Trod enc Ybaf.prog W 0 (fun _ => true) true t (.slice a len cap) d p) : ∃ zs, IsRow k W a len cap zs := by
  obtain ⟨fuel, hf⟩ := h
  rcases open_ints ht he hce hf with ⟨hcs, _⟩ | ⟨x, l, c, zs, hcs, _, hl, hm, hz, _, hcell, hwz⟩
  · simp [Value.cells] at hcs
    obtain ⟨rfl, rfl, rfl⟩ := hcs
    exact ⟨[], .inl ⟨rfl, rfl, rfl, rfl⟩⟩
  · simp [Value.cells] at hcs
    obtain ⟨rfl, rfl, rfl⟩ := hcs
    exact ⟨zs, .inr ⟨_, rfl, hl, hm, by simpa using hz, hcell, hwz⟩⟩

theorem walk (W : World) (F : Stop.Interp) (a0 : Option Addr) (l0 c0 : Nat) (n : Int) (z0 : List Int) (h0 : IsRow .u8 W a0 l0 c0 z0) (hn0 : 0 ≤ n) (hn1 : n ≤ 255) (a : Addr) (s : ByteArray)
    (hF : F.answers W.tape) (hg : W.cell? ⟨1, 0, none⟩ = some (.iface 71 (.pointer (some a)))) (ht : W.cell? a = some (.string s)) :
    Calls Ybaf.prog 5 #[.slice a0 l0 c0, .int .u8 n] W fun e w' => e = .returned (.bool true) ∧ Below W.heap.size W w' := by
  by_cases hl : l0 ≤ 4096
  · have hlc : l0 ≤ c0 := by
      rcases h0 with ⟨_, h1, h2, _⟩ | ⟨x, _, h1, _⟩
      · omega
      · exact h1
    have hcap : a0 = none → c0 = 0 := fun h => by
      rcases h0 with ⟨_, _, h2, _⟩ | ⟨x, hx, _⟩
      · exact h2
      · rw [hx] at h; cases h
    have hsh : (∃ b off, a0 = some ⟨b, off, none⟩) ∨ c0 = 0 := by
      rcases h0 with ⟨_, _, h2, _⟩ | ⟨x, rfl, h1, h2, h3, h4, _⟩
      · exact .inr h2
      · by_cases hc : c0 = 0
        · exact .inr hc
        · obtain ⟨b, off, spot⟩ := x
          have hspot : spot = none := by simpa [Addr.add] using World.cell?_spot (h4 0 (by omega))
          subst hspot
          exact .inl ⟨b, off, rfl⟩
    obtain ⟨ys, rfl, hy, hyw, _⟩ := h0.at
    have hyb : ∀ n ∈ ys, 0 ≤ n ∧ n < 256 := fun n hn => by have := bounds_u8 (hyw n hn); omega
    obtain ⟨m, rfl⟩ : ∃ m : Nat, n = (m : Int) := ⟨n.toNat, by omega⟩
    suffices hb : Bx.Din W a0 (ys.map fun n => n.toNat.toUInt8) c0 F a s by
      have hq := Bx.law_dec W m (by omega) a0 (ys.map fun n => n.toNat.toUInt8) c0 F a s hb
      rw [List.length_map] at hq
      exact hq
    refine ⟨by simpa using hl, ?_, by simpa using hlc, hg, ht, hF⟩
    rcases hsh with ⟨b, off, rfl⟩ | h0c
    · refine .inl ⟨b, off, rfl, fun j hj => ?_⟩
      have hj' : j < ys.length := by simpa using hj
      obtain ⟨b', off', hp, hc⟩ := hy.resolve_left (by rintro rfl; simp at hj')
      simp only [Option.some.injEq, Addr.mk.injEq, and_true] at hp
      obtain ⟨rfl, rfl⟩ := hp
      have hb := hyb _ (List.getElem_mem hj')
      rw [hc j hj', List.getElem_map]
      have e : ((ys[j].toNat.toUInt8).toNat : Int) = ys[j] := by
        have : (ys[j].toNat.toUInt8).toNat = ys[j].toNat := by simp; omega
        rw [this, Int.toNat_of_nonneg hb.1]
      rw [e]
    · refine .inr ⟨?_, h0c⟩
      have : ys = [] := List.eq_nil_of_length_eq_zero (by omega)
      rw [this]
      rfl
  · exact Bx.law_dec_long W n a0 l0 c0 (by omega)

set_option maxRecDepth 100000 in
theorem lifted (os : Os) (started : os.Started) (H : Type) (enc : TypeId × Value → H) :
    ReturnsInTold none {} Ybaf.checked os 5 .any Input.okWide ((OpenSpec.ofChange Rows.lawS3949BDecodeSpec).preRow enc Ybaf.prog Ybaf.f5 [] false Rows.lawS3949BDecodeRow.laid)
      (fun F => ((OpenSpec.ofChange Rows.lawS3949BDecodeSpec).at F).post enc Ybaf.prog Ybaf.f5 false true false false) (aloneAtReturn Ybaf.prog) nothingAlways := by
  refine returnsInTold_of_row (C := Ybaf.checked) (s := OpenSpec.ofChange Rows.lawS3949BDecodeSpec) (by kernel_rfl) own started (by kernel_rfl) Ybaf.func5
    (OpenSpec.witness_stopped_at (enc := enc) (C := Ybaf.checked) false ({ World.holding Ybaf.prog os ⟨#[.cells #[.string ⟨#[110, 111, 116, 32, 97, 32, 109, 101, 115, 115, 97, 103, 101, 32, 111, 102, 32, 116, 104, 101, 32, 103, 114, 111, 117, 112]⟩] 73], #[], []⟩ with heap := (World.holding Ybaf.prog os ⟨#[.cells #[.string ⟨#[110, 111, 116, 32, 97, 32, 109, 101, 115, 115, 97, 103, 101, 32, 111, 102, 32, 116, 104, 101, 32, 103, 114, 111, 117, 112]⟩] 73], #[], []⟩).heap.modify 1 fun | .cells _ t frozen => .cells #[.iface 71 (.pointer (some ⟨(World.holding Ybaf.prog default ⟨#[], #[], []⟩).heap.size, 0, none⟩))] t frozen | o => o } : World) #[.slice none 0 0, .int .u8 0] rfl (by kernel_rfl) (by kernel_rfl) (by kernel_rfl)
      (OpenSpec.preRow_of_B rfl 8 (by kernel_rfl) (by kernel_rfl) (laid_met os _))) ?_
  intro F W base args ds gs before _ hF hval0 hW _ _ _ hL _
  have hval : ∀ (j : Nat) t v, Ybaf.f5.params[j]? = some t → args[j]? = some v → Value.okWide Ybaf.prog W .any base t v := hval0
  have hW' := hW
  obtain ⟨p, q, hA0, hV, rfl, hfz, hnd⟩ := hW
  have hA : DataW.TrodAll enc Ybaf.prog W 0 (fun _ => true) true Ybaf.f5.params.toList args.toList ds p := hA0
  rw [Ybaf.params5] at hA hval
  obtain ⟨v0, vs0, d0, ds0, p0, q0, hargs, rfl, rfl, h0, r0⟩ := trodAll_cons hA
  obtain ⟨v1, vs1, d1, ds1, p1, q1, rfl, rfl, rfl, h1, r1⟩ := trodAll_cons r0
  obtain ⟨rfl, rfl, rfl⟩ := trodAll_nil r1
  obtain rfl : args = #[v0, v1] := by cases args; simp_all
  obtain ⟨a0, l0, c0, rfl⟩ := okWide_slice Ybaf.underlying22 (hval 0 22 v0 rfl rfl)
  obtain ⟨a1, rfl, rfl, rfl, w1⟩ := open_int Ybaf.underlying5 (hval 1 5 v1 rfl rfl) h1
  have lt0 : ∀ x ∈ p0, x.block < W.heap.size := by obtain ⟨m, hm⟩ := h0; exact DataW.trod_lt m _ _ _ hm
  obtain ⟨z0, o0⟩ := open_row Ybaf.underlying22 Ybaf.underlying5 (by kernel_rfl) h0
  clear hA0 hval0
  have hb8 := bounds_u8 w1
  obtain ⟨gs0, rfl⟩ : ∃ gs0, gs = [gs0] := one_var hV
  have hL' : laidMet Ybaf.prog Rows.lawS3949BDecodeRow.laid W := hL
  obtain ⟨a, t, hv, hc, _, _⟩ := laid_sentinel (g := 1) hL' (by kernel_rfl) (by kernel_rfl) Ybaf.underlying26 (row71 rfl) Ybaf.underlying71 Ybaf.underlying73 rfl rfl Ybaf.underlying9 (by kernel_rfl) (by kernel_rfl)
  have hg : W.cell? ⟨1, 0, none⟩ = some (.iface 71 (.pointer (some a))) := by simpa using World.var?_cell (g := 1) (by kernel_rfl) hv 0
  refine (walk W F.told a0 l0 c0 a1 z0 o0 hb8.1 hb8.2 a t hF hg hc).mono fun e W' ⟨he, bel⟩ => ?_
  subst he
  refine ⟨_, rfl, _, _, _, [], _, _, hW', trodAll_mk1 (shut_bool Ybaf.underlying4 _),
    (trodAll_cons_mk (Below.trod laidOut (by kernel_rfl) (of_decide_eq_true (by kernel_rfl)) h0 bel lt0) (trodAll_cons_mk (shut_int Ybaf.underlying5 w1) trodAll_mk0)), Below.trodVars laidOut bel (by kernel_rfl) hV, bel.frame _, fun h => by cases h⟩

theorem card : Rows.LawS3949BDecodeToldSaid :=
  Claim7.holds_of_told_tied_any_at .later 5 Ybaf.f5 "fmt.errorf" [] [] _ _ _ _ _ (by kernel_rfl) rfl rfl rfl laidOut (by kernel_rfl) rfl ⟨rfl, rfl, rfl, rfl, rfl, rfl, rfl⟩ rfl rfl (by kernel_rfl) (by kernel_rfl) Ybaf.func5 (by kernel_rfl)
    (of_decide_eq_true (by kernel_rfl)) (by unfold Func.isWrapper; first | (rw [if_pos (by decide +kernel)]; kernel_rfl) | (rw [if_neg (by decide +kernel)]; exact ⟨rfl, rfl⟩)) stops.symm rfl stopKnobs.symm (by kernel_rfl)
    (by kernel_rfl) (by kernel_rfl) (by kernel_rfl) (by kernel_rfl) (by kernel_rfl) (by kernel_rfl) (by kernel_rfl) (by kernel_rfl) (by kernel_rfl) rfl (by kernel_rfl) rfl rfl
    rfl rfl
    rfl (by kernel_rfl) (by kernel_rfl) (by kernel_rfl) (by decide) (by kernel_rfl) lawS3949BDecode_row_tie
    (OpenClaim.moreEntering_of (by kernel_rfl) (by kernel_rfl) (by kernel_rfl) (by kernel_rfl) (by kernel_rfl) (by kernel_rfl) (by kernel_rfl) (by kernel_rfl) (by kernel_rfl) (by kernel_rfl))
    ⟨_, WideRow.started_initial, quiet _⟩
    (fun os started _ H enc _ => lifted os started H enc)

end Go.Proofs.YbulkcctkFmt.lawS3949BDecode

namespace Go.Proofs.YbulkcctkFmt
/-- THE STATEMENT -/
theorem lawS3949BDecode_proved : Rows.LawS3949BDecodeToldSaid := lawS3949BDecode.card
end Go.Proofs.YbulkcctkFmt
