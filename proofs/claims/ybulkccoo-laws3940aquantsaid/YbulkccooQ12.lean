import Derived.Test.YbulkccooQ11
namespace Go.Proofs.Ybulkccoo
open Go.RowKit
namespace Qx

def qL (k s f : Int) (m n : Nat) (closed : Bool) : List Int :=
  if k = 0 then [42] else if k = 1 then [43] else if k = 2 then [63] else pre s ++ (digs m ++ (mid f n ++ clo s closed))
def wMinK (k : Int) (m : Nat) : Int := if k = 0 then 0 else if k = 1 then 1 else if k = 2 then 0 else m
def wMaxK (k f : Int) (m n : Nat) : Int := if k = 0 then -1 else if k = 1 then -1 else if k = 2 then 1 else wMax f m n
def wPrefK (k f : Int) : Int := if k = 3 then wPref f else 1
def wErrK (k f : Int) (m n : Nat) (closed lz ta : Bool) : Value := if k = 3 then wErr f m n closed lz ta else .nilIface

theorem wErr_form (f : Int) (m n : Nat) (closed lz ta : Bool) : wErr f m n closed lz ta = .nilIface ∨ ∃ E, wErr f m n closed lz ta = .iface 29 (.string E) := by
  unfold wErr
  split
  · exact .inr ⟨_, rfl⟩
  · split
    · exact .inr ⟨_, rfl⟩
    · split
      · exact .inr ⟨_, rfl⟩
      · split
        · exact .inr ⟨_, rfl⟩
        · split
          · exact .inr ⟨_, rfl⟩
          · exact .inl rfl

theorem wErrK_form (k f : Int) (m n : Nat) (closed lz ta : Bool) : wErrK k f m n closed lz ta = .nilIface ∨ ∃ E, wErrK k f m n closed lz ta = .iface 29 (.string E) := by
  unfold wErrK
  split
  · exact wErr_form f m n closed lz ta
  · exact .inl rfl

theorem simple_at (c s : Int) (lz ta : Bool) (mn mx : Int) (hc : (c = 42 ∧ mn = 0 ∧ mx = -1) ∨ (c = 43 ∧ mn = 1 ∧ mx = -1) ∨ (c = 63 ∧ mn = 0 ∧ mx = 1)) (T : List Int) (hT : T = [c] ++ tl lz ta)
    (pb sb cap : Nat) (atom : Option Addr) (w : World) (hp : Ps w pb sb T.length cap (fun i => T.getD i 0) 0 s) :
    Calls Yba.prog 6 #[.pointer (some ⟨pb, 0, none⟩), .pointer atom] w fun e w' => RepGood pb sb T.length cap (fun i => T.getD i 0) s (.pointer atom) mn mx (fPref s lz 1) (fPos s lz 1) w e w' := by
  have h0 : T.getD 0 0 = c := by rw [hT]; rfl
  refine repeat_simple w pb sb _ cap _ s hp atom (by rw [hT]; simp) mn mx (by rw [h0]; exact hc) _ _ ?_
  cases lz
  · right
    refine ⟨.inr ?_, by simp [fPref], by simp [fPos]⟩
    exact peek_no [c] (tl false ta) T hT 63 (by
      cases ta
      · exact .inl rfl
      · right; show (97 : Int) ≠ 63; decide)
  · by_cases hs : s = 0
    · left
      refine ⟨hs, ?_, ?_, by simp [fPref, hs], by simp [fPos, hs]⟩
      · rw [hT]; cases ta <;> simp [tl]
      · show T.getD 1 0 = 63
        rw [hT]; cases ta <;> rfl
    · right
      exact ⟨.inl hs, by simp [fPref, hs], by simp [fPos, hs]⟩

/-- 'repeat' at the law's text. -/
theorem rep_all (k s f : Int) (hk : k = 0 ∨ k = 1 ∨ k = 2 ∨ k = 3) (hs : s = 0 ∨ s = 1 ∨ s = 2) (hf : f = 0 ∨ f = 1 ∨ f = 2) (m n : Nat) (hm : m < 1000) (hn : n < 1000) (closed lz ta : Bool) (T : List Int) (hT : T = qL k s f m n closed ++ tl lz ta)
    (pb sb cap : Nat) (atom : Option Addr) (w : World) (hp : Ps w pb sb T.length cap (fun i => T.getD i 0) 0 s) :
    (∀ E, wErrK k f m n closed lz ta = .iface 29 (.string E) → Calls Yba.prog 6 #[.pointer (some ⟨pb, 0, none⟩), .pointer atom] w fun e w' => e = .returned (.tuple #[.pointer none, .iface 29 (.string E)]) ∧ w.grownBy w' (some pb)) ∧
    (wErrK k f m n closed lz ta = .nilIface → Calls Yba.prog 6 #[.pointer (some ⟨pb, 0, none⟩), .pointer atom] w fun e w' =>
      RepGood pb sb T.length cap (fun i => T.getD i 0) s (.pointer atom) (wMinK k m) (wMaxK k f m n) (fPref s lz (wPrefK k f)) (fPos s lz (qL k s f m n closed).length) w e w') := by
  rcases hk with rfl | rfl | rfl | rfl
  · refine ⟨fun E hE => (by cases hE), fun _ => ?_⟩
    exact simple_at 42 s lz ta 0 (-1) (.inl ⟨rfl, rfl, rfl⟩) T hT pb sb cap atom w hp
  · refine ⟨fun E hE => (by cases hE), fun _ => ?_⟩
    exact simple_at 43 s lz ta 1 (-1) (.inr (.inl ⟨rfl, rfl, rfl⟩)) T hT pb sb cap atom w hp
  · refine ⟨fun E hE => (by cases hE), fun _ => ?_⟩
    exact simple_at 63 s lz ta 0 1 (.inr (.inr ⟨rfl, rfl, rfl⟩)) T hT pb sb cap atom w hp
  · have e1 : qL 3 s f m n closed = pre s ++ (digs m ++ (mid f n ++ clo s closed)) := rfl
    have e2 : wErrK 3 f m n closed lz ta = wErr f m n closed lz ta := rfl
    have e3 : (qL 3 s f m n closed).length = (pre s).length + ((digs m).length + (mid f n).length) + (clo s closed).length := by rw [e1]; simp; omega
    have h := rep_bound s f hs hf m n hm hn closed lz ta T (by rw [hT, e1]; simp) pb sb cap atom w hp
    rw [e2, e3]
    exact h

/-- 'err == wantErr', both interface values of one string type: as the strings are. -/
theorem run_eql_iface_str (w : World) (E : ByteArray) : (binOp .eql 27 (.iface 29 (.string E)) (.iface 29 (.string E))).run Yba.prog w = .ok (.bool true) w := by
  have hi := Yba.underlying27
  have hn : Yba.prog.underlying 29 = some .string := Yba.underlying29
  have hinf : (Yba.prog.info? 29).map (fun i => i.comparable) = some true := by kernel_rfl
  obtain ⟨i, hinfo, hcomp⟩ := Option.map_eq_some_iff.1 hinf
  have h : ∀ d : Nat, (Op.equalIn (d + 2) 27 (.iface 29 (.string E)) (.iface 29 (.string E))).run Yba.prog w = .ok true w := fun d => by
    simp [Op.equalIn, run_underlying hi, run_underlying hn, typeInfo, hinfo, hcomp]
    cases E with
    | mk d => show (d == d) = true; simp
  simp only [binOp]
  simp [Op.equal, Op.maxDepth, h 9998]
end Qx
end Go.Proofs.Ybulkccoo
