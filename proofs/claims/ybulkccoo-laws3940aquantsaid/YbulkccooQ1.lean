import Derived.Test.YbulkccooRows
import Derived.WalkKit
import Derived.WalkSpells
import Derived.WalkLawsBesides
import Derived.Deep.QuietTactic
import Derived.BigQuiet
import Derived.WalkSmall
namespace Go.Proofs.Ybulkccoo
open Go.RowKit
namespace Qx

/-- The parser in memory: pb: the struct's block; sb: the text's; L runes ch 0 .. ch (L-1). -/
structure Ps (w : World) (pb sb L cap : Nat) (ch : Nat → Int) (pos : Nat) (syn : Int) : Prop where
  c0 : w.cell? ⟨pb, 0, none⟩ = some (.slice (some ⟨sb, 0, none⟩) L cap)
  c1 : w.cell? ⟨pb, 1, none⟩ = some (.int .i64 pos)
  c2 : w.cell? ⟨pb, 2, none⟩ = some (.int .u8 syn)
  c6 : w.cell? ⟨pb, 6, none⟩ = some (.bool false)
  f1 : w.frozen? ⟨pb, 1, none⟩ = false
  ne : pb ≠ sb
  chs : ∀ i, i < L → w.cell? ⟨sb, i, none⟩ = some (.int .i32 (ch i))
  le : L ≤ cap
  cap1 : L ≤ 1000000
  pos1 : pos ≤ L

set_option maxHeartbeats 400000 in
theorem skipBlank_any (w : World) (pb sb L cap : Nat) (ch : Nat → Int) (pos : Nat) (syn : Int) (h : Ps w pb sb L cap ch pos syn) :
    Calls Yba.prog 15 #[.pointer (some ⟨pb, 0, none⟩)] w fun e w' => e = .returned (.tuple #[]) ∧ ∃ n, w' = w.drewN n := by
  have c6 := h.c6
  go_enter Yba.func15, Yba.ntmps15
  go_wp2
  refine wp_loop_rounds 1 ?_
  rw [rounds_succ]
  go_wp2_with fail
  go_quiet (fail)
  go_wp2
  go_end0
  exact ⟨rfl, _, rfl⟩

def isDig (c : Int) : Bool := decide (48 ≤ c) && decide (c ≤ 57)

theorem isDigit_any (c : Int) (w : World) : Calls Yba.prog 16 #[.int .i32 c] w fun e w' => e = .returned (.bool (isDig c)) ∧ w' = w := by
  by_cases h : 48 ≤ c
  · have h1 : decide (48 ≤ c) = true := by simpa using h
    have HD : Hid (isDig c = decide (c ≤ 57)) := by simp [Hid, isDig, h1]
    go_enter Yba.func16, Yba.ntmps16
    go_wp2
    go_ret
    exact ⟨by rw [HD.out]; rfl, rfl⟩
  · have h1 : decide (48 ≤ c) = false := by simpa using h
    have HD : Hid (isDig c = false) := by simp [Hid, isDig, h1]
    go_enter Yba.func16, Yba.ntmps16
    go_wp2
    go_ret
    exact ⟨by rw [HD.out]; rfl, rfl⟩

def peek (L : Nat) (ch : Nat → Int) (i : Nat) (c : Int) : Bool := decide (i < L) && (ch i == c)

set_option maxHeartbeats 400000 in
theorem peekIs_any (w : World) (pb sb L cap : Nat) (ch : Nat → Int) (pos : Nat) (syn : Int) (h : Ps w pb sb L cap ch pos syn) (c : Int) :
    Calls Yba.prog 11 #[.pointer (some ⟨pb, 0, none⟩), .int .i64 0, .int .i32 c] w fun e w' => e = .returned (.bool (peek L ch pos c)) ∧ ∃ n, w' = w.drewN n := by
  have c0 := h.c0
  have c1 := h.c1
  have hle := h.le
  have hc1 := h.cap1
  have hp1 := h.pos1
  by_cases hlt : pos < L
  · have cc := h.chs pos hlt
    have h1 : (pos : Int) < (L : Int) := by omega
    have h0 : (0 : Int) ≤ (pos : Int) := by omega
    have HP : Hid (peek L ch pos c = (ch pos == c)) := by simp [Hid, peek, hlt]
    go_enter Yba.func11, Yba.ntmps11
    go_wp2_with fail
    go_quiet (fail)
    go_wp2
    go_ret
    exact ⟨by rw [HP.out]; rfl, _, rfl⟩
  · have h1 : decide ((pos : Int) < (L : Int)) = false := by simp; omega
    have HP : Hid (peek L ch pos c = false) := by simp [Hid, peek, hlt]
    go_enter Yba.func11, Yba.ntmps11
    go_wp2_with fail
    go_quiet (fail)
    go_wp2
    go_ret
    exact ⟨by rw [HP.out]; rfl, _, rfl⟩

/-- The parser behind a step: the place has moved; all other blocks are as they were. -/
theorem Ps.draws {w : World} {pb sb L cap : Nat} {ch : Nat → Int} {pos : Nat} {syn : Int} (h : Ps w pb sb L cap ch pos syn) (n : Nat) : Ps (w.drewN n) pb sb L cap ch pos syn :=
  ⟨h.c0, h.c1, h.c2, h.c6, h.f1, h.ne, h.chs, h.le, h.cap1, h.pos1⟩

theorem Ps.lt {w : World} {pb sb L cap : Nat} {ch : Nat → Int} {pos : Nat} {syn : Int} (h : Ps w pb sb L cap ch pos syn) : pb < w.heap.size := World.block_lt_of_cell? w _ h.c0

theorem Ps.move {w : World} {pb sb L cap : Nat} {ch : Nat → Int} {pos : Nat} {syn : Int} (h : Ps w pb sb L cap ch pos syn) {pos' : Nat} {x : Int} (hx : x = (pos' : Nat)) (hp : pos' ≤ L) : Ps (w.setCell ⟨pb, 1, none⟩ (.int .i64 x)) pb sb L cap ch pos' syn := by
  subst hx
  refine ⟨?_, World.cell?_setCell_same _ _ _ h.c1, ?_, ?_, ?_, h.ne, fun i hi => ?_, h.le, h.cap1, hp⟩
  · rw [World.cell?_setCell_other _ _ _ _ (by simp)]; exact h.c0
  · rw [World.cell?_setCell_other _ _ _ _ (by simp)]; exact h.c2
  · rw [World.cell?_setCell_other _ _ _ _ (by simp)]; exact h.c6
  · rw [World.frozen?_setCell]; exact h.f1
  · rw [World.cell?_setCell_other _ _ _ _ (by simp; intro e; exact absurd e h.ne)]; exact h.chs i hi

theorem Ps.keep {w w' : World} {pb sb L cap : Nat} {ch : Nat → Int} {pos : Nat} {syn : Int} (h : Ps w pb sb L cap ch pos syn) (hk : ∀ a v, w.cell? a = some v → w'.cell? a = some v) (hf : w'.frozen? ⟨pb, 1, none⟩ = w.frozen? ⟨pb, 1, none⟩) : Ps w' pb sb L cap ch pos syn :=
  ⟨hk _ _ h.c0, hk _ _ h.c1, hk _ _ h.c2, hk _ _ h.c6, hf.trans h.f1, h.ne, fun i hi => hk _ _ (h.chs i hi), h.le, h.cap1, h.pos1⟩

theorem grown_setp {w w' : World} {b : Nat} (h : w.grownBy w' (some b)) (o : Nat) (x : Value) : w.grownBy (w'.setCell ⟨b, o, none⟩ x) (some b) :=
  ⟨h.os, h.tape, h.output, by simpa [World.setCell] using h.size, fun k hk hne => (Below.heap_setCell _ _ _ _ (by intro e; exact hne (by rw [e]))).trans (h.block k hk hne)⟩
theorem grown_draws {w w' : World} {row : Option Nat} (h : w.grownBy w' row) (n : Nat) : w.grownBy (w'.drewN n) row := ⟨h.os, h.tape, h.output, h.size, h.block⟩

set_option maxHeartbeats 400000 in
theorem next_any (w : World) (pb sb L cap : Nat) (ch : Nat → Int) (pos : Nat) (syn : Int) (h : Ps w pb sb L cap ch pos syn) (hlt : pos < L) :
    Calls Yba.prog 9 #[.pointer (some ⟨pb, 0, none⟩)] w fun e w' => e = .returned (.tuple #[.int .i32 (ch pos), .bool true]) ∧ Ps w' pb sb L cap ch (pos + 1) syn ∧ w.grownBy w' (some pb) := by
  have c0 := h.c0
  have c1 := h.c1
  have f1 := h.f1
  have hle := h.le
  have hc1 := h.cap1
  have hne := h.ne
  have cc := h.chs pos hlt
  have h1 : (pos : Int) < (L : Int) := by omega
  have h0 : (0 : Int) ≤ (pos : Int) := by omega
  have hd : decide ((L : Int) ≤ (pos : Int)) = false := by simp; omega
  go_enter Yba.func9, Yba.ntmps9
  go_wp2_with fail
  go_quiet (fail)
  go_wp2_with fail
  have hm := (h.draws nq).move (pos' := pos + 1) (x := (pos : Int) + 1) (by omega) (by omega)
  have hg := grown_setp (grown_draws (World.grownBy.refl w (some pb)) nq) 1 (.int .i64 ((pos : Int) + 1))
  obtain ⟨Wx, hWx⟩ : ∃ Wx, (w.drewN nq).setCell ⟨pb, 1, none⟩ (.int .i64 ((pos : Int) + 1)) = Wx := ⟨_, rfl⟩
  rw [hWx] at hm hg ⊢
  clear hWx
  have d0 := hm.c0
  have d1 := hm.c1
  have dd := hm.chs pos hlt
  have e1 : IntKind.i64.wrap (((pos + 1 : Nat) : Int) - 1) = (pos : Int) := by rw [IntKind.wrap_i64]; omega
  rw [show ((pos + 1 : Nat) : Int) = (pos : Int) + 1 by omega] at d1 e1
  go_quiet (fail)
  go_wp2
  go_ret2
  exact ⟨rfl, hm.draws _, grown_draws hg _⟩

end Qx
end Go.Proofs.Ybulkccoo
