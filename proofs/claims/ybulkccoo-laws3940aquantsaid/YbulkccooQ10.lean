import Derived.Test.YbulkccooQ9
namespace Go.Proofs.Ybulkccoo
open Go.RowKit
namespace Qx

def pre (s : Int) : List Int := if s = 2 then [92, 123] else [123]
def clo (s : Int) (closed : Bool) : List Int := if closed = true then (if s = 2 then [92, 125] else [125]) else []
def mid (f : Int) (n : Nat) : List Int := if f = 0 then [] else if f = 1 then [44] else 44 :: digs n
def tl (lz ta : Bool) : List Int := (if lz = true then [63] else []) ++ (if ta = true then [97] else [])

theorem rb1 : runesBytes [125] = { data := #[125] } := rfl
theorem rb2 : runesBytes [63] = { data := #[63] } := rfl
theorem rb3 : runesBytes [97] = { data := #[97] } := rfl
theorem rb4 : runesBytes [92, 125] = { data := #[92, 125] } := rfl
theorem rb5 : runesBytes [63, 97] = { data := #[63, 97] } := rfl

theorem tl_len (lz ta : Bool) : (tl lz ta).length ≤ 2 := by cases lz <;> cases ta <;> simp [tl]

/-- 'skipPrefix(end)' at the place behind the numbers. -/
theorem skip_at (A T : List Int) (s : Int) (closed lz ta : Bool) (hT : T = A ++ (clo s closed ++ tl lz ta)) (pb sb cap : Nat) (hq : A.length < T.length) (w1 : World) (hp : Ps w1 pb sb T.length cap (fun i => T.getD i 0) A.length s) :
    Calls Yba.prog 17 #[.pointer (some ⟨pb, 0, none⟩), endS s] w1 fun e w' => e = .returned (.bool closed) ∧ Ps w' pb sb T.length cap (fun i => T.getD i 0) (if closed = true then A.length + (clo s closed).length else A.length) s ∧ w1.grownBy w' (some pb) := by
  have g0 : T.getD A.length 0 = (clo s closed ++ tl lz ta).getD 0 0 := by rw [hT]; exact getD_end _ _
  have g1 : T.getD (A.length + 1) 0 = (clo s closed ++ tl lz ta).getD 1 0 := by rw [hT]; exact getD_end1 _ _
  have hl : T.length = A.length + ((clo s closed).length + (tl lz ta).length) := by rw [hT]; simp
  by_cases hs : s = 2
  · subst hs
    have hE : endS 2 = .string { data := #[92, 125] } := if_pos rfl
    rw [hE]
    cases closed
    · have hc : clo 2 false = [] := rfl
      rw [hc] at g0 g1 hl
      cases lz <;> cases ta
      · simp [tl] at hl; omega
      · exact prefix2_one w1 pb sb _ cap _ A.length 2 hp (by simp [tl] at hl; omega)
      · exact prefix2_one w1 pb sb _ cap _ A.length 2 hp (by simp [tl] at hl; omega)
      · have h := prefix2_any w1 pb sb _ cap _ A.length 2 hp (by simp [tl] at hl; omega) 63 97 (by
          show runesBytes [T.getD A.length 0, T.getD (A.length + 1) 0] = _
          rw [g0, g1]
          exact rb5)
        exact h
    · have hc : clo 2 true = [92, 125] := rfl
      rw [hc] at g0 g1 hl
      have h := prefix2_any w1 pb sb _ cap _ A.length 2 hp (by simp at hl; omega) 92 125 (by
          show runesBytes [T.getD A.length 0, T.getD (A.length + 1) 0] = _
          rw [g0, g1]
          exact rb4)
      exact h
  · have hE : endS s = .string { data := #[125] } := if_neg hs
    rw [hE]
    cases closed
    · have hc : clo s false = [] := rfl
      rw [hc] at g0 g1 hl
      cases lz <;> cases ta
      · simp [tl] at hl; omega
      · have h := prefix1_any w1 pb sb _ cap _ A.length s hp hq 97 (by
          show runesBytes [T.getD A.length 0] = _
          rw [g0]
          exact rb3)
        exact h
      · have h := prefix1_any w1 pb sb _ cap _ A.length s hp hq 63 (by
          show runesBytes [T.getD A.length 0] = _
          rw [g0]
          exact rb2)
        exact h
      · have h := prefix1_any w1 pb sb _ cap _ A.length s hp hq 63 (by
          show runesBytes [T.getD A.length 0] = _
          rw [g0]
          exact rb2)
        exact h
    · have hc : clo s true = [125] := by unfold clo; rw [if_pos rfl, if_neg hs]
      rw [hc] at g0 g1 hl ⊢
      have h := prefix1_any w1 pb sb _ cap _ A.length s hp hq 125 (by
          show runesBytes [T.getD A.length 0] = _
          rw [g0]
          exact rb1)
      exact h

end Qx
end Go.Proofs.Ybulkccoo
