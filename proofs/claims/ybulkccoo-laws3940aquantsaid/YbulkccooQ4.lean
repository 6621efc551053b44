import Derived.Test.YbulkccooQ3
import Derived.Deep.LoopGhost
namespace Go.Proofs.Ybulkccoo
open Go.RowKit
namespace Qx

/-- The texts of the two refusals. -/
def eCount : Value := .iface 29 (.string { data := #[105, 110, 118, 97, 108, 105, 100, 32, 114, 101, 112, 101, 116, 105, 116, 105, 111, 110, 32, 99, 111, 117, 110, 116, 40, 115, 41] })
def eBraces : Value := .iface 29 (.string { data := #[98, 114, 97, 99, 101, 115, 32, 123, 125, 32, 110, 111, 116, 32, 98, 97, 108, 97, 110, 99, 101, 100] })

/-- A number lies at pos: k digits, whose value goes by 'val'; behind them no digit. -/
structure Num (L : Nat) (ch : Nat → Int) (pos k : Nat) (val : Nat → Int) : Prop where
  le : pos + k ≤ L
  v0 : val 0 = 0
  vs : ∀ j, j < k → val (j + 1) = val j * 10 + (ch (pos + j) - 48)
  d : ∀ j, j < k → 48 ≤ ch (pos + j) ∧ ch (pos + j) ≤ 57
  lt : ∀ j, j < k → val j < 255
  bd : ∀ j, j ≤ k → 0 ≤ val j ∧ val j ≤ 3000
  stop : dig L ch (pos + k) = false

theorem Num.yes {L : Nat} {ch : Nat → Int} {pos k : Nat} {val : Nat → Int} (h : Num L ch pos k val) {j : Nat} (hj : j < k) : dig L ch (pos + j) = true := by
  have h1 := h.le
  have h2 := h.d j hj
  simp [dig, isDig, h2]
  omega

def cntOut (v : Int) : Value := if v ≤ 255 then .tuple #[.int .i64 v, .nilIface] else .tuple #[.int .i64 0, eCount]

set_option maxHeartbeats 1000000 in
set_option maxRecDepth 10000 in
theorem count_any (w : World) (pb sb L cap : Nat) (ch : Nat → Int) (pos : Nat) (syn : Int) (h : Ps w pb sb L cap ch pos syn) (k : Nat) (val : Nat → Int) (hn : Num L ch pos k val) :
    Calls Yba.prog 14 #[.pointer (some ⟨pb, 0, none⟩)] w fun e w' => e = .returned (cntOut (val k)) ∧ Ps w' pb sb L cap ch (pos + k) syn ∧ w.grownBy w' (some pb) := by
  have hle := h.le
  have hc1 := h.cap1
  have hpl := h.lt
  have hkL := hn.le
  go_enter Yba.func14, Yba.ntmps14
  go_wp2_with fail
  go_loopg [4] k (fun gk nv wr => ∃ j : Nat, j + gk = k ∧ nv = .int .i64 (val j) ∧ Ps wr pb sb L cap ch (pos + j) syn ∧ wr.cell? ⟨w.heap.size, 0, none⟩ = some (.pointer (some ⟨pb, 0, none⟩)) ∧ w.grownBy wr (some pb))
  case atStart =>
    refine ⟨0, by omega, by rw [hn.v0], ?_, by simp, ?_⟩
    · exact h.below ((Below.refl _ _).alloc (Nat.le_refl _) _)
    · exact grown_below ((Below.refl _ _).alloc (Nat.le_refl _) _) _
  case round =>
    obtain ⟨j, hj, rfl, hp, hx, hg⟩ := hrel
    have HJ : Hid (j + gk = k) := hj
    have hjk : j ≤ k := by omega
    clear hj
    have hvb := hn.bd j hjk
    have hgs := hg.size
    by_cases hlt : j < k
    · have hy := hn.yes hlt
      have hch := hn.d j hlt
      have hvl := hn.lt j hlt
      have hvs := hn.vs j hlt
      have hvb1 := hn.bd (j + 1) (by omega)
      have hdc := digit_any wr w.heap.size pb sb L cap ch (pos + j) syn hp hx
      rw [hy] at hdc
      go_wp2_with fail
      refine hdc.mono ?_
      clear hdc
      rintro e w1 ⟨rfl, n1, hw1⟩
      replace hp : Ps w1 pb sb L cap ch (pos + j) syn := by rw [hw1]; exact hp.draws n1
      replace hx : w1.cell? ⟨w.heap.size, 0, none⟩ = some (.pointer (some ⟨pb, 0, none⟩)) := by rw [hw1]; exact hx
      replace hg : w.grownBy w1 (some pb) := by rw [hw1]; exact grown_draws hg n1
      clear hw1 hy
      have c0 := hp.c0
      have c1 := hp.c1
      have f1 := hp.f1
      have cc := hp.chs (pos + j) (by omega)
      obtain ⟨x, hxe⟩ : ∃ x, x = ch (pos + j) := ⟨_, rfl⟩
      rw [← hxe] at cc hch hvs
      clear hxe
      obtain ⟨u, hue⟩ : ∃ u, u = val j := ⟨_, rfl⟩
      rw [← hue] at hvb hvl hvs ⊢
      have e1 : IntKind.i64.wrap (u * 10) = u * 10 := by rw [IntKind.wrap_i64]; omega
      have e2 : IntKind.i32.wrap (x - 48) = x - 48 := by rw [IntKind.wrap_i32]; omega
      have e3 : IntKind.i64.wrap (x - 48) = x - 48 := by rw [IntKind.wrap_i64]; omega
      have e4 : IntKind.i64.wrap (u * 10 + (x - 48)) = u * 10 + (x - 48) := by rw [IntKind.wrap_i64]; omega
      have HV : Hid (val (j + 1) = u * 10 + (x - 48)) := hvs
      have h0 : (0 : Int) ≤ (pos : Int) + (j : Int) := by omega
      have h1 : (pos : Int) + (j : Int) < (L : Int) := by omega
      rw [show ((pos + j : Nat) : Int) = (pos : Int) + (j : Int) by omega] at c1
      clear hue hvs
      go_wp2_with fail
      go_quiet (fail)
      go_wp2
      go_roundg (gk - 1)
      case measure => have := HJ.out; omega
      case rel => exact ⟨j + 1, by have := HJ.out; omega, by rw [HV.out], (hp.draws _).move (by omega) (by omega), (by rw [World.cell?_setCell_other _ _ _ _ (by intro e; injection e with e; omega)]; exact hx), grown_setp (grown_draws hg _) _ _⟩
    · have hjk' : j = k := by omega
      subst hjk'
      have hy := hn.stop
      have hdc := digit_any wr w.heap.size pb sb L cap ch (pos + j) syn hp hx
      rw [hy] at hdc
      go_wp2_with fail
      refine hdc.mono ?_
      clear hdc
      rintro e w1 ⟨rfl, n1, hw1⟩
      replace hp : Ps w1 pb sb L cap ch (pos + j) syn := by rw [hw1]; exact hp.draws n1
      replace hx : w1.cell? ⟨w.heap.size, 0, none⟩ = some (.pointer (some ⟨pb, 0, none⟩)) := by rw [hw1]; exact hx
      replace hg : w.grownBy w1 (some pb) := by rw [hw1]; exact grown_draws hg n1
      clear hw1
      have hdc := digit_any w1 w.heap.size pb sb L cap ch (pos + j) syn hp hx
      rw [hy] at hdc
      go_wp2_with fail
      refine hdc.mono ?_
      clear hdc
      rintro e w2 ⟨rfl, n2, hw2⟩
      replace hp : Ps w2 pb sb L cap ch (pos + j) syn := by rw [hw2]; exact hp.draws n2
      replace hg : w.grownBy w2 (some pb) := by rw [hw2]; exact grown_draws hg n2
      clear hw2 hx hy
      by_cases hv : val j ≤ 255
      · have HO : Hid (cntOut (val j) = .tuple #[.int .i64 (val j), .nilIface]) := if_pos hv
        go_wp2
        go_ret2
        exact ⟨by rw [HO.out]; rfl, hp, hg⟩
      · have HO : Hid (cntOut (val j) = .tuple #[.int .i64 0, eCount]) := if_neg hv
        go_wp2
        go_ret2
        exact ⟨by rw [HO.out]; rfl, hp, hg⟩
end Qx
end Go.Proofs.Ybulkccoo
