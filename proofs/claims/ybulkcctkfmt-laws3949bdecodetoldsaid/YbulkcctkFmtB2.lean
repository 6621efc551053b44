import Derived.Test.YbulkcctkFmtRows
import Derived.Test.YbulkcctkFmtShelf
import Derived.Test.YbulkcctkFmtB1
import Derived.WalkKit
import Derived.ProofKit
import Derived.WalkSpells
import Derived.WalkLawsBesides
import Derived.Deep.QuietTactic
import Derived.BigQuiet
import Derived.WalkSmall
import Derived.Below
import Derived.Deep.OwnRows
import Derived.Deep.RegionHeld3
import Derived.Deep.Light
import Derived.Lib.VarintBits
import Derived.Laws.Closers25b
namespace Go.Proofs.YbulkcctkFmt
open Go.RowKit
namespace Bx

/-- the bytes l lie behind p -/
def Bs (w : World) (p : Option Addr) (l : List UInt8) : Prop := l = [] ∨ ∃ g o, p = some ⟨g, o, none⟩ ∧ ∀ j (hj : j < l.length), w.cell? ⟨g, o + j, none⟩ = some (.int .u8 (l[j]).toNat)

theorem Bs.drop {w : World} {g o k : Nat} {l : List UInt8} (h : ∀ j (hj : j < l.length), w.cell? ⟨g, o + j, none⟩ = some (.int .u8 (l[j]).toNat)) : Bs w (some ⟨g, o + k, none⟩) (l.drop k) := by
  refine .inr ⟨g, o + k, rfl, fun j hj => ?_⟩
  have hj' : k + j < l.length := by simp at hj; omega
  rw [List.getElem_drop, Nat.add_assoc]
  exact h (k + j) hj'
theorem Bs.dropped {w : World} {g o k : Nat} {l : List UInt8} (h : Bs w (some ⟨g, o, none⟩) l) : Bs w (some ⟨g, o + k, none⟩) (l.drop k) := by
  rcases h with rfl | ⟨g', o', e, hc⟩
  · exact .inl (by simp)
  · simp only [Option.some.injEq, Addr.mk.injEq, and_true] at e
    obtain ⟨rfl, rfl⟩ := e
    exact Bs.drop hc
theorem Bs.nil (w : World) (p : Option Addr) {l : List UInt8} (h : l = []) : Bs w p l := .inl h
theorem Bs.later {w w' : World} {p : Option Addr} {l : List UInt8} {B : Nat} (h : Bs w p l) (hB : w.heap.size ≤ B) (hb : Below B w w') : Bs w' p l := by
  rcases h with h | ⟨g, o, hp, hc⟩
  · exact .inl h
  · exact .inr ⟨g, o, hp, fun j hj => cell_later (hb.mono hB) (hc j hj)⟩

/-- what a successful uvarint hands back -/
def Uok (w : World) (p : Option Addr) (l : List UInt8) (c v k : Nat) (e : Ending) (w' : World) : Prop :=
  ∃ p' n, e = .returned (.tuple #[.int .u64 v, .slice p' (l.length - k : Nat) (c - k : Nat), .nilIface]) ∧ (∀ w2, Bs w2 p l → Bs w2 p' (l.drop k)) ∧ w' = w.drewN n

set_option maxHeartbeats 1000000 in
theorem uvarint_ok (w : World) (p : Option Addr) (l : List UInt8) (c v k : Nat) (hb : Bs w p l) (hc : l.length ≤ c) (hs : step l = some (v, k)) :
    Calls Ybaf.prog 23 #[.slice p l.length c] w (Uok w p l c v k) := by
  obtain ⟨hk0, hk1, hv⟩ := step_size hs
  obtain ⟨g, o, rfl, hcell⟩ := hb.resolve_left (by rintro rfl; simp at hk1; omega)
  have hU := Ybaf.binary_Uvarint g o l.length c l w rfl hcell
  have e1 : (Lib.uvarintDec l).1 = v := by
    unfold step at hs
    split at hs
    · cases hs
    · simp at hs; exact hs.1
  have e2 : (Lib.uvarintDec l).2 = (k : Int) := by
    unfold step at hs
    split at hs
    · cases hs
    · simp at hs; omega
  rw [e1, e2] at hU
  have h1 : ¬ ((k : Int) ≤ 0) := by omega
  have h2 : (0 : Int) ≤ (k : Int) := by omega
  have h3 : (k : Int) ≤ (l.length : Int) := by omega
  have h4 : (k : Int) ≤ (c : Int) := by omega
  have h5 : (l.length : Int) ≤ (c : Int) := by omega
  by_cases hck : c = k
  · subst hck
    have hnil : l.drop c = [] := List.drop_eq_nil_of_le (by omega)
    have HB : Hid (∀ w2, Bs w2 (some ⟨g, o, none⟩) l → Bs w2 (some ⟨g, o, none⟩) (l.drop c)) := fun w2 _ => Bs.nil _ _ hnil
    go_enter Ybaf.func23, Ybaf.ntmps23
    go_wp2_with (go_at_call 24; refine hU.mono ?_; rintro e w' ⟨rfl, rfl⟩)
    go_quiet (fail)
    go_wp2
    go_ret3
    exact ⟨some ⟨g, o, none⟩, _, by simp; omega, HB.out, rfl⟩
  · have HB : Hid (∀ w2, Bs w2 (some ⟨g, o, none⟩) l → Bs w2 (some ⟨g, o + k, none⟩) (l.drop k)) := fun w2 h2 => Bs.dropped h2
    go_enter Ybaf.func23, Ybaf.ntmps23
    go_wp2_with (go_at_call 24; refine hU.mono ?_; rintro e w' ⟨rfl, rfl⟩)
    go_quiet (fail)
    go_wp2
    go_ret3
    exact ⟨_, _, rfl, HB.out, rfl⟩
end Bx
end Go.Proofs.YbulkcctkFmt
