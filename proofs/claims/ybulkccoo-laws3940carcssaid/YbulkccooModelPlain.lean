/-
  Plain mathematics for 'zzs3940cmodel': the passes, and the sum over the entries.
-/
import Derived.Test.YbulkccooArcsPlain
namespace Go.Proofs.Ybulkccoo.Gx

structure RB (G : Gr) (e : Nat) (B : Nat → Bool) (pass : Nat) : Prop where
  start : B e = true
  least : ∀ C : Nat → Bool, C e = true → Closed G C → ∀ i, i < G.n → B i = true → C i = true
  more : (pass : Int) + 1 ≤ cnt B G.n

section
variable {G : Gr} {e pass pc o a : Nat} {B B0 : Nat → Bool} {ch : Bool}

theorem RB.first (he : e < G.n) : RB G e (upd (fun _ => false) e) 0 := by
  refine ⟨upd_self _ _, fun C hC _ i _ hb => ?_, ?_⟩
  · rcases upd_inv hb with rfl | hb
    · exact hC
    · cases hb
  · rw [cnt_upd rfl he]
    have := (cnt_le (fun _ => false) G.n).1
    omega

theorem RB.lt (h : RB G e B pass) : pass < G.n := by
  have := h.more
  have := (cnt_le B G.n).2
  omega

theorem RB.begun (h : RB G e B pass) : Pass G e B B false 0 := Pass.begin h.start h.least

theorem Pass.next (h : Pass G e B0 B true G.n) (h0 : RB G e B0 pass) : RB G e B (pass + 1) := by
  refine ⟨h.start, h.least, ?_⟩
  have := h.more
  have := h0.more
  simp only [if_true] at *
  omega

/-- no successor -/
theorem Pass.none (h : Pass G e B0 B ch pc) (h1 : G.op pc ≠ 1) (h2 : ¬ (G.op pc = 2 ∨ G.op pc = 3)) : Pass G e B0 B ch (pc + 1) :=
  h.stay (fun _ j hj => by unfold succs at hj; rw [if_neg h1, if_neg h2] at hj; cases hj)

/-- one successor, reached already -/
theorem Pass.one_old (h : Pass G e B0 B ch pc) (h1 : G.op pc ≠ 1) (h2 : G.op pc = 2 ∨ G.op pc = 3) (hb : B (G.ou pc) = true) : Pass G e B0 B ch (pc + 1) :=
  h.stay (fun _ j hj => by unfold succs at hj; rw [if_neg h1, if_pos h2] at hj; simp at hj; rw [hj]; exact hb)

theorem Pass.one_new (h : Pass G e B0 B ch pc) (hG : G.Ok) (hpc : pc < G.n) (hB : B pc = true) (h1 : G.op pc ≠ 1) (h2 : G.op pc = 2 ∨ G.op pc = 3) (hb : B (G.ou pc) = false) : Pass G e B0 (upd B (G.ou pc)) true (pc + 1) :=
  (h.mark hpc hB (j := G.ou pc) (by unfold succs; rw [if_neg h1, if_pos h2]; simp) (hG.ou pc) hb).stay (fun hc => by cases hc)

theorem Pass.two_old (h : Pass G e B0 B ch pc) (h1 : G.op pc = 1) (hb : B (G.ou pc) = true) (hb' : B (G.al pc) = true) : Pass G e B0 B ch (pc + 1) :=
  h.stay (fun _ j hj => by
    unfold succs at hj
    rw [if_pos h1] at hj
    simp at hj
    rcases hj with rfl | rfl
    · exact hb
    · exact hb')

theorem Pass.mark_out (h : Pass G e B0 B ch pc) (hG : G.Ok) (hpc : pc < G.n) (hB : B pc = true) (h1 : G.op pc = 1) (hb : B (G.ou pc) = false) : Pass G e B0 (upd B (G.ou pc)) true pc :=
  h.mark hpc hB (by unfold succs; rw [if_pos h1]; simp) (hG.ou pc) hb

theorem Pass.mark_alt (h : Pass G e B0 B ch pc) (hG : G.Ok) (hpc : pc < G.n) (hB : B pc = true) (h1 : G.op pc = 1) (hb : B (G.al pc) = false) : Pass G e B0 (upd B (G.al pc)) true pc :=
  h.mark hpc hB (by unfold succs; rw [if_pos h1]; simp) (hG.al pc) hb

theorem Pass.go_on (h : Pass G e B0 B true pc) : Pass G e B0 B true (pc + 1) := h.stay (fun hc => by cases hc)

end

/-- The sum over the first k entries. -/
structure Part (G : Gr) (w f : Nat → Int) (k : Nat) (t : Int) : Prop where
  fs : ∀ j, j < k → Rs G w ((ents G).getD j 0) (f j)
  t : t = sumTo f k

section
variable {G : Gr} {w f : Nat → Int} {k : Nat} {t x : Int}

theorem Part.start : Part G w f 0 0 := ⟨fun _ h => by omega, rfl⟩

theorem Part.next (h : Part G w f k t) (hx : Rs G w ((ents G).getD k 0) x) : ∃ f', Part G w f' (k + 1) (t + x) := by
  refine ⟨fun j => if j = k then x else f j, ⟨fun j hj => ?_, ?_⟩⟩
  · by_cases e : j = k
    · subst e
      simpa using hx
    · simpa [e] using h.fs j (by omega)
  · simp only [sumTo]
    rw [h.t, sumTo_congr (f := f) (g := fun j => if j = k then x else f j) k (fun i hi => by simp [show i ≠ k by omega])]
    simp

theorem Part.bd (h : Part G w f k t) (hn : G.n ≤ 256) (hw : ∀ i, 0 ≤ w i ∧ w i ≤ 255) : 0 ≤ t ∧ t ≤ 65280 * k := by
  have := sumTo_bd (f := f) (M := 65280) k (fun j hj => by
    obtain ⟨B, _, hB⟩ := h.fs j hj
    have := wsum_bd hw B G.n
    rw [hB]
    omega)
  rw [h.t]
  exact this

theorem Part.done (h : Part G w f (ents G).length t) (hG : G.Ok) (hw : ∀ i, 0 ≤ w i ∧ w i ≤ 255) : Sums G w f := ⟨hG, hw, h.fs⟩
end
end Go.Proofs.Ybulkccoo.Gx
