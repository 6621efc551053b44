/-
  The text that 'LawS3940AQuant' builds, and what 'repeat' answers to it: the numbers in it, the places behind them.
-/
import Derived.Test.YbulkccooQ8
namespace Go.Proofs.Ybulkccoo
open Go.RowKit
namespace Qx

/-! ### lists -/
theorem getD_mid (A X B : List Int) (j : Nat) (hj : j < X.length) : (A ++ (X ++ B)).getD (A.length + j) 0 = X.getD j 0 := by
  simp only [List.getD_eq_getElem?_getD]
  rw [List.getElem?_append_right (by omega), List.getElem?_append_left (by omega)]
  simp

theorem getD_end (A B : List Int) : (A ++ B).getD A.length 0 = B.getD 0 0 := by
  simp only [List.getD_eq_getElem?_getD]
  rw [List.getElem?_append_right (by omega)]
  simp

theorem getD_end1 (A B : List Int) : (A ++ B).getD (A.length + 1) 0 = B.getD 1 0 := by
  simp only [List.getD_eq_getElem?_getD]
  rw [List.getElem?_append_right (by omega)]
  simp

/-- the value of the first j digits -/
def dv (l : List Int) : Nat → Int
  | 0 => 0
  | j + 1 => dv l j * 10 + (l.getD j 0 - 48)

theorem digs_cases (v : Nat) (hv : v < 1000) : (v < 10 ∧ digs v = [48 + (v : Int)]) ∨ (10 ≤ v ∧ v < 100 ∧ digs v = [48 + ((v / 10 : Nat) : Int), 48 + ((v % 10 : Nat) : Int)]) ∨
    (100 ≤ v ∧ digs v = [48 + ((v / 100 : Nat) : Int), 48 + ((v / 10 % 10 : Nat) : Int), 48 + ((v % 10 : Nat) : Int)]) := by
  unfold digs rdig
  by_cases h0 : v = 0
  · subst h0
    left
    exact ⟨by omega, rfl⟩
  · rw [if_neg h0, if_neg h0]
    by_cases h1 : v < 10
    · left
      rw [if_pos h1]
      exact ⟨h1, rfl⟩
    · rw [if_neg h1]
      by_cases h2 : v < 100
      · right; left
        rw [if_pos h2]
        exact ⟨by omega, h2, rfl⟩
      · right; right
        rw [if_neg h2]
        exact ⟨by omega, rfl⟩

theorem digs_facts (v : Nat) (hv : v < 1000) :
    dv (digs v) (digs v).length = v ∧ (∀ j, j < (digs v).length → 48 ≤ (digs v).getD j 0 ∧ (digs v).getD j 0 ≤ 57) ∧ (∀ j, j < (digs v).length → dv (digs v) j < 255) ∧ (∀ j, j ≤ (digs v).length → 0 ≤ dv (digs v) j ∧ dv (digs v) j ≤ 3000) := by
  rcases digs_cases v hv with ⟨h, e⟩ | ⟨h, h', e⟩ | ⟨h, e⟩
  · rw [e]
    refine ⟨?_, fun j hj => ?_, fun j hj => ?_, fun j hj => ?_⟩
    · simp [dv]; omega
    · match j, hj with
      | 0, _ => simp; omega
    · match j, hj with
      | 0, _ => simp [dv]
    · match j, hj with
      | 0, _ => simp [dv]
      | 1, _ => simp [dv]; omega
  · rw [e]
    refine ⟨?_, fun j hj => ?_, fun j hj => ?_, fun j hj => ?_⟩
    · simp [dv]; omega
    · match j, hj with
      | 0, _ => simp; omega
      | 1, _ => simp; omega
    · match j, hj with
      | 0, _ => simp [dv]
      | 1, _ => simp [dv]; omega
    · match j, hj with
      | 0, _ => simp [dv]
      | 1, _ => simp [dv]; omega
      | 2, _ => simp [dv]; omega
  · rw [e]
    refine ⟨?_, fun j hj => ?_, fun j hj => ?_, fun j hj => ?_⟩
    · simp [dv]; omega
    · match j, hj with
      | 0, _ => simp; omega
      | 1, _ => simp; omega
      | 2, _ => simp; omega
    · match j, hj with
      | 0, _ => simp [dv]
      | 1, _ => simp [dv]; omega
      | 2, _ => simp [dv]; omega
    · match j, hj with
      | 0, _ => simp [dv]
      | 1, _ => simp [dv]; omega
      | 2, _ => simp [dv]; omega
      | 3, _ => simp [dv]; omega

/-- no digit at the head -/
def noDig (B : List Int) : Prop := B = [] ∨ isDig (B.getD 0 0) = false

theorem num_at (A B T : List Int) (v : Nat) (hv : v < 1000) (hT : T = A ++ (digs v ++ B)) (hB : noDig B) : Num T.length (fun i => T.getD i 0) A.length (digs v).length (dv (digs v)) := by
  obtain ⟨_, h2, h3, h4⟩ := digs_facts v hv
  have hg : ∀ j, j < (digs v).length → T.getD (A.length + j) 0 = (digs v).getD j 0 := fun j hj => by rw [hT]; exact getD_mid A (digs v) B j hj
  refine ⟨by rw [hT]; simp, rfl, fun j hj => ?_, fun j hj => ?_, h3, h4, ?_⟩
  · show dv (digs v) (j + 1) = dv (digs v) j * 10 + (T.getD (A.length + j) 0 - 48)
    rw [hg j hj]
    rfl
  · show 48 ≤ T.getD (A.length + j) 0 ∧ T.getD (A.length + j) 0 ≤ 57
    rw [hg j hj]
    exact h2 j hj
  · show dig T.length (fun i => T.getD i 0) (A.length + (digs v).length) = false
    rcases hB with rfl | hB
    · have : T.length = A.length + (digs v).length := by rw [hT]; simp
      simp [dig, this]
    · have e : T.getD (A.length + (digs v).length) 0 = B.getD 0 0 := by
        rw [hT, ← List.append_assoc, ← List.length_append]
        exact getD_end (A ++ digs v) B
      simp only [dig]
      rw [e, hB]
      simp

end Qx
end Go.Proofs.Ybulkccoo
