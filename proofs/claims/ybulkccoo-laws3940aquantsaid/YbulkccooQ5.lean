import Derived.Test.YbulkccooQ4
import Derived.Deep.CutRange
import Derived.Deep.DeepCutAuto
namespace Go.Proofs.Ybulkccoo
open Go.RowKit
namespace Qx

/-- The node that is being made. -/
structure Nd (w : World) (rb : Nat) (sub : Value) (mn mx pr : Int) : Prop where
  c0 : w.cell? ⟨rb, 0, none⟩ = some (.int .u8 4)
  c5 : w.cell? ⟨rb, 5, none⟩ = some sub
  c6 : w.cell? ⟨rb, 6, none⟩ = some (.int .i64 mn)
  c7 : w.cell? ⟨rb, 7, none⟩ = some (.int .i64 mx)
  c8 : w.cell? ⟨rb, 8, none⟩ = some (.int .u8 pr)
  f6 : w.frozen? ⟨rb, 6, none⟩ = false
  f7 : w.frozen? ⟨rb, 7, none⟩ = false
  f8 : w.frozen? ⟨rb, 8, none⟩ = false

theorem Nd.lt {w : World} {rb : Nat} {sub : Value} {mn mx pr : Int} (h : Nd w rb sub mn mx pr) : rb < w.heap.size := World.block_lt_of_cell? w _ h.c0

/-- Only the blocks pb and rb may have turned. -/
structure Two (pb rb : Nat) (w w' : World) : Prop where
  os : w'.os = w.os
  tape : w'.tape = w.tape
  output : w'.output = w.output
  size : w.heap.size ≤ w'.heap.size
  block : ∀ k, k < w.heap.size → k ≠ pb → k ≠ rb → w'.heap[k]? = w.heap[k]?

theorem Two.refl (pb rb : Nat) (w : World) : Two pb rb w w := ⟨rfl, rfl, rfl, Nat.le_refl _, fun _ _ _ _ => rfl⟩
theorem Two.trans {pb rb : Nat} {a b c : World} (h : Two pb rb a b) (k : Two pb rb b c) : Two pb rb a c :=
  ⟨k.os.trans h.os, k.tape.trans h.tape, k.output.trans h.output, Nat.le_trans h.size k.size, fun i hi h1 h2 => (k.block i (Nat.lt_of_lt_of_le hi h.size) h1 h2).trans (h.block i hi h1 h2)⟩
theorem Two.of_grown {pb rb : Nat} {w w' : World} (h : w.grownBy w' (some pb)) : Two pb rb w w' :=
  ⟨h.os, h.tape, h.output, h.size, fun k hk h1 _ => h.block k hk (by intro e; exact h1 (Option.some.inj e))⟩
theorem Two.setR {pb rb : Nat} (w : World) (o : Nat) (x : Value) : Two pb rb w (w.setCell ⟨rb, o, none⟩ x) :=
  ⟨rfl, rfl, rfl, by simp [World.setCell], fun k _ _ h2 => Below.heap_setCell _ _ _ _ (by simpa using h2)⟩
theorem Two.setP {pb rb : Nat} (w : World) (o : Nat) (x : Value) : Two pb rb w (w.setCell ⟨pb, o, none⟩ x) :=
  ⟨rfl, rfl, rfl, by simp [World.setCell], fun k _ h1 _ => Below.heap_setCell _ _ _ _ (by simpa using h1)⟩
theorem Two.draws {pb rb : Nat} (w : World) (n : Nat) : Two pb rb w (w.drewN n) := ⟨rfl, rfl, rfl, Nat.le_refl _, fun _ _ _ _ => rfl⟩

theorem Nd.of_block {w w' : World} {rb : Nat} {sub : Value} {mn mx pr : Int} (h : Nd w rb sub mn mx pr) (e : w'.heap[rb]? = w.heap[rb]?) : Nd w' rb sub mn mx pr := by
  have hc : ∀ o, w'.cell? ⟨rb, o, none⟩ = w.cell? ⟨rb, o, none⟩ := fun o => World.cell?_of_block (w := w) e
  have hf : ∀ o, w'.frozen? ⟨rb, o, none⟩ = w.frozen? ⟨rb, o, none⟩ := fun o => World.frozen?_of_block (w := w) e
  exact ⟨(hc _).trans h.c0, (hc _).trans h.c5, (hc _).trans h.c6, (hc _).trans h.c7, (hc _).trans h.c8, (hf _).trans h.f6, (hf _).trans h.f7, (hf _).trans h.f8⟩

theorem Nd.grown {w w' : World} {rb pb : Nat} {sub : Value} {mn mx pr : Int} (h : Nd w rb sub mn mx pr) (hg : w.grownBy w' (some pb)) (hne : rb ≠ pb) : Nd w' rb sub mn mx pr :=
  h.of_block (hg.block rb h.lt (by intro e; exact hne (Option.some.inj e)))

theorem Nd.setP {w : World} {rb pb : Nat} {sub : Value} {mn mx pr : Int} (h : Nd w rb sub mn mx pr) (hne : rb ≠ pb) (o : Nat) (x : Value) : Nd (w.setCell ⟨pb, o, none⟩ x) rb sub mn mx pr :=
  h.of_block (Below.heap_setCell _ _ _ _ (by simpa using hne))

theorem Nd.draws {w : World} {rb : Nat} {sub : Value} {mn mx pr : Int} (h : Nd w rb sub mn mx pr) (n : Nat) : Nd (w.drewN n) rb sub mn mx pr := ⟨h.c0, h.c5, h.c6, h.c7, h.c8, h.f6, h.f7, h.f8⟩

theorem Nd.setPref {w : World} {rb : Nat} {sub : Value} {mn mx pr : Int} (h : Nd w rb sub mn mx pr) (x : Int) : Nd (w.setCell ⟨rb, 8, none⟩ (.int .u8 x)) rb sub mn mx x := by
  have hc : ∀ o, o ≠ 8 → (w.setCell ⟨rb, 8, none⟩ (.int .u8 x)).cell? ⟨rb, o, none⟩ = w.cell? ⟨rb, o, none⟩ := fun o ho => World.cell?_setCell_other _ _ _ _ (by intro e; injection e with _ e; exact ho e.symm)
  have hf : ∀ o, (w.setCell ⟨rb, 8, none⟩ (.int .u8 x)).frozen? ⟨rb, o, none⟩ = w.frozen? ⟨rb, o, none⟩ := fun o => World.frozen?_setCell _ _ _ _
  exact ⟨(hc 0 (by decide)).trans h.c0, (hc 5 (by decide)).trans h.c5, (hc 6 (by decide)).trans h.c6, (hc 7 (by decide)).trans h.c7, World.cell?_setCell_same _ _ _ h.c8, (hf _).trans h.f6, (hf _).trans h.f7, (hf _).trans h.f8⟩

theorem Nd.setMin {w : World} {rb : Nat} {sub : Value} {mn mx pr : Int} (h : Nd w rb sub mn mx pr) (x : Int) : Nd (w.setCell ⟨rb, 6, none⟩ (.int .i64 x)) rb sub x mx pr := by
  have hc : ∀ o, o ≠ 6 → (w.setCell ⟨rb, 6, none⟩ (.int .i64 x)).cell? ⟨rb, o, none⟩ = w.cell? ⟨rb, o, none⟩ := fun o ho => World.cell?_setCell_other _ _ _ _ (by intro e; injection e with _ e; exact ho e.symm)
  have hf : ∀ o, (w.setCell ⟨rb, 6, none⟩ (.int .i64 x)).frozen? ⟨rb, o, none⟩ = w.frozen? ⟨rb, o, none⟩ := fun o => World.frozen?_setCell _ _ _ _
  exact ⟨(hc 0 (by decide)).trans h.c0, (hc 5 (by decide)).trans h.c5, World.cell?_setCell_same _ _ _ h.c6, (hc 7 (by decide)).trans h.c7, (hc 8 (by decide)).trans h.c8, (hf _).trans h.f6, (hf _).trans h.f7, (hf _).trans h.f8⟩

theorem Nd.setMax {w : World} {rb : Nat} {sub : Value} {mn mx pr : Int} (h : Nd w rb sub mn mx pr) (x : Int) : Nd (w.setCell ⟨rb, 7, none⟩ (.int .i64 x)) rb sub mn x pr := by
  have hc : ∀ o, o ≠ 7 → (w.setCell ⟨rb, 7, none⟩ (.int .i64 x)).cell? ⟨rb, o, none⟩ = w.cell? ⟨rb, o, none⟩ := fun o ho => World.cell?_setCell_other _ _ _ _ (by intro e; injection e with _ e; exact ho e.symm)
  have hf : ∀ o, (w.setCell ⟨rb, 7, none⟩ (.int .i64 x)).frozen? ⟨rb, o, none⟩ = w.frozen? ⟨rb, o, none⟩ := fun o => World.frozen?_setCell _ _ _ _
  exact ⟨(hc 0 (by decide)).trans h.c0, (hc 5 (by decide)).trans h.c5, (hc 6 (by decide)).trans h.c6, World.cell?_setCell_same _ _ _ h.c7, (hc 8 (by decide)).trans h.c8, (hf _).trans h.f6, (hf _).trans h.f7, (hf _).trans h.f8⟩

theorem Ps.setR {w : World} {pb sb L cap : Nat} {ch : Nat → Int} {pos : Nat} {syn : Int} (h : Ps w pb sb L cap ch pos syn) {rb : Nat} (h1 : rb ≠ pb) (h2 : rb ≠ sb) (o : Nat) (x : Value) : Ps (w.setCell ⟨rb, o, none⟩ x) pb sb L cap ch pos syn := by
  have hc : ∀ b, rb ≠ b → ∀ o', (w.setCell ⟨rb, o, none⟩ x).cell? ⟨b, o', none⟩ = w.cell? ⟨b, o', none⟩ := fun b hb o' => World.cell?_setCell_other _ _ _ _ (by intro e; injection e with e _; exact hb e)
  exact ⟨(hc pb h1 _).trans h.c0, (hc pb h1 _).trans h.c1, (hc pb h1 _).trans h.c2, (hc pb h1 _).trans h.c6, (World.frozen?_setCell _ _ _ _).trans h.f1, h.ne, fun i hi => (hc sb h2 _).trans (h.chs i hi), h.le, h.cap1, h.pos1⟩

/-- The value of 'end'. -/
def endS (syn : Int) : Value := if syn = 2 then .string { data := #[92, 125] } else .string { data := #[125] }

set_option maxHeartbeats 1000000 in
set_option maxRecDepth 10000 in
/-- The first number is too great. -/
theorem counts_bad1 (w : World) (pb sb L cap : Nat) (ch : Nat → Int) (pos : Nat) (syn : Int) (h : Ps w pb sb L cap ch pos syn) (rb : Nat) (k1 : Nat) (val1 : Nat → Int) (hn : Num L ch pos k1 val1) (hv : 255 < val1 k1) :
    Calls Yba.prog 10 #[.pointer (some ⟨pb, 0, none⟩), .pointer (some ⟨rb, 0, none⟩)] w fun e w' => e = .returned eCount ∧ Two pb rb w w' := by
  have hc := count_any w pb sb L cap ch pos syn h k1 val1 hn
  rw [show cntOut (val1 k1) = .tuple #[.int .i64 0, eCount] from if_neg (by omega)] at hc
  go_enter Yba.func10, Yba.ntmps10
  go_wp2_with fail
  refine hc.mono ?_
  clear hc
  rintro e w1 ⟨rfl, hp, hg⟩
  have ht := Two.of_grown (rb := rb) hg
  unfold eCount
  go_wp2
  go_ret
  exact ⟨rfl, ht⟩

end Qx
end Go.Proofs.Ybulkccoo
