/-
  Plain mathematics for '(*regexProg).arcs': the state of the search, round by round.
-/
import Derived.Test.YbulkccooGraph
namespace Go.Proofs.Ybulkccoo.Gx

def vis (rc : Nat → Nat) (i : Nat) : Nat → Bool := fun j => decide (rc j = i + 1)
def setAt (rc : Nat → Nat) (v x : Nat) : Nat → Nat := fun j => if j = v then x else rc j

theorem vis_setAt (rc : Nat → Nat) (i v : Nat) : vis (setAt rc v (i + 1)) i = upd (vis rc i) v := by
  funext j
  unfold vis setAt upd
  by_cases e : j = v
  · simp [e]
  · simp [e]

structure Outer (G : Gr) (f : Nat → Int) (i : Nat) (most A Wk : Int) (rc : Nat → Nat) : Prop where
  a : A = sumTo f i
  wk : 0 ≤ Wk ∧ Wk ≤ 256 * i
  ok : A ≤ most ∨ i = 0
  rc : ∀ j, j < G.n → rc j ≤ i

structure Inner (G : Gr) (w f : Nat → Int) (i e : Nat) (most A Wk : Int) (rc : Nat → Nat) (S : List Nat) : Prop where
  dfs : Dfs G e (vis rc i) S
  a : A = sumTo f i + wsum w (vis rc i) G.n
  wk : 0 ≤ Wk ∧ Wk ≤ 256 * i + cnt (vis rc i) G.n
  ok : A ≤ most ∨ ∀ j, j < G.n → vis rc i j = false
  rc : ∀ j, j < G.n → rc j ≤ i + 1

/-- What is known of the sums that the entries reach. -/
structure Sums (G : Gr) (w f : Nat → Int) : Prop where
  ok : G.Ok
  wb : ∀ i, 0 ≤ w i ∧ w i ≤ 255
  fs : ∀ j, j < (ents G).length → Rs G w ((ents G).getD j 0) (f j)

section
variable {G : Gr} {w f : Nat → Int} {i e v : Nat} {most A Wk : Int} {rc : Nat → Nat} {S : List Nat}

theorem Sums.bd (h : Sums G w f) (j : Nat) (hj : j < (ents G).length) : 0 ≤ f j ∧ f j ≤ 65280 := by
  obtain ⟨B, _, hB⟩ := h.fs j hj
  have := wsum_bd h.wb B G.n
  have := h.ok.n1
  rw [hB]
  omega

theorem Sums.len (h : Sums G w f) : 0 < (ents G).length ∧ (ents G).length ≤ 513 := by
  have := entsL_len G G.L
  have := h.ok.n1
  have := h.ok.l1
  unfold ents
  omega

theorem Sums.total (h : Sums G w f) {k : Nat} (hk : k ≤ (ents G).length) : 0 ≤ sumTo f k ∧ sumTo f k ≤ 33488640 := by
  have h1 := sumTo_bd (f := f) (M := 65280) k (fun j hj => h.bd j (by omega))
  have := h.len
  omega

theorem ents_at (h : G.Ok) {j : Nat} (hj : j < (ents G).length) : (ents G).getD j 0 < G.n := by
  have : (ents G).getD j 0 ∈ ents G := by
    rw [List.getD_eq_getElem?_getD, List.getElem?_eq_getElem hj]
    exact List.getElem_mem hj
  exact entsL_lt h G.L _ this

theorem Outer.start (hrc : ∀ j, j < G.n → rc j = 0) : Outer G f 0 most 0 0 rc :=
  ⟨rfl, by simp, .inr rfl, fun j hj => by rw [hrc j hj]; exact Nat.le_refl _⟩

theorem Outer.inner (h : Outer G f i most A Wk rc) (hs : Sums G w f) (hi : i < (ents G).length) : Inner G w f i ((ents G).getD i 0) most A Wk rc [(ents G).getD i 0] := by
  have hV : ∀ j, j < G.n → vis rc i j = false := fun j hj => by
    have := h.rc j hj
    simp [vis]
    omega
  have h0 : wsum w (vis rc i) G.n = 0 := wsum_empty _ hV
  refine ⟨Dfs.begin (ents_at hs.ok hi) hV, by rw [h0, h.a]; omega, ?_, .inr hV, fun j hj => by have := h.rc j hj; omega⟩
  have := h.wk
  have := (cnt_le (vis rc i) G.n).1
  omega

/-- What has been gathered is no more than what all entries reach. -/
theorem Inner.le (h : Inner G w f i ((ents G).getD i 0) most A Wk rc S) (hs : Sums G w f) (hi : i < (ents G).length) : 0 ≤ A ∧ A ≤ sumTo f (i + 1) := by
  have h1 := h.dfs.le (w := w) (fun j => (hs.wb j).1) (hs.fs i hi)
  have h2 := (wsum_bd hs.wb (vis rc i) G.n).1
  have h3 := (hs.total (k := i) (by omega)).1
  have h4 := h.a
  simp only [sumTo]
  omega

theorem Inner.bd (h : Inner G w f i ((ents G).getD i 0) most A Wk rc S) (hs : Sums G w f) (hi : i < (ents G).length) : 0 ≤ A ∧ A ≤ 33488640 ∧ 0 ≤ Wk ∧ Wk ≤ 131584 := by
  have h1 := h.le hs hi
  have h2 := hs.total (k := i + 1) (by omega)
  have h3 := h.wk
  have h4 := cnt_le (vis rc i) G.n
  have h5 := hs.ok.n1
  have h6 := hs.len
  omega

theorem Inner.old (h : Inner G w f i e most A Wk rc (S ++ [v])) (hv : rc v = i + 1) : Inner G w f i e most A Wk rc S :=
  ⟨h.dfs.old (by simp [vis, hv]), h.a, h.wk, h.ok, h.rc⟩

theorem Inner.step (h : Inner G w f i e most A Wk rc (S ++ [v])) (hG : G.Ok) (hv : rc v ≠ i + 1) :
    Dfs G e (vis (setAt rc v (i + 1)) i) (S ++ succs G v) ∧ A + w v = sumTo f i + wsum w (vis (setAt rc v (i + 1)) i) G.n ∧ cnt (vis (setAt rc v (i + 1)) i) G.n = cnt (vis rc i) G.n + 1 := by
  have hlt : v < G.n := h.dfs.bd v (by simp)
  have hf : vis rc i v = false := by simp [vis, hv]
  rw [vis_setAt]
  refine ⟨h.dfs.new hG, ?_, cnt_upd hf hlt⟩
  rw [wsum_upd hf, if_pos hlt, h.a]
  omega

theorem Inner.new (h : Inner G w f i e most A Wk rc (S ++ [v])) (hG : G.Ok) (hv : rc v ≠ i + 1) (hm : A + w v ≤ most) : Inner G w f i e most (A + w v) (Wk + 1) (setAt rc v (i + 1)) (S ++ succs G v) := by
  obtain ⟨h1, h2, h3⟩ := h.step hG hv
  refine ⟨h1, h2, ?_, .inl hm, fun j hj => ?_⟩
  · have := h.wk
    omega
  · have := h.rc j hj
    unfold setAt
    split <;> omega

theorem Inner.over (h : Inner G w f i ((ents G).getD i 0) most A Wk rc (S ++ [v])) (hs : Sums G w f) (hi : i < (ents G).length) (hv : rc v ≠ i + 1) (hm : most < A + w v) : most < sumTo f (ents G).length := by
  obtain ⟨h1, h2, _⟩ := h.step hs.ok hv
  have h3 := h1.le (w := w) (fun j => (hs.wb j).1) (hs.fs i hi)
  have h4 := sumTo_mono (f := f) (k := i + 1) (m := (ents G).length) (by omega) (fun j hj => (hs.bd j hj).1)
  simp only [sumTo] at h4
  omega

theorem Inner.done (h : Inner G w f i ((ents G).getD i 0) most A Wk rc []) (hs : Sums G w f) (hi : i < (ents G).length) : Outer G f (i + 1) most A Wk rc := by
  have hc := h.dfs.done
  have he : f i = wsum w (vis rc i) G.n := (hs.fs i hi).unique ⟨_, hc, rfl⟩
  refine ⟨?_, ?_, ?_, h.rc⟩
  · simp only [sumTo]
    rw [h.a, he]
  · have := h.wk
    have := cnt_le (vis rc i) G.n
    have := hs.ok.n1
    omega
  · rcases h.ok with h0 | h0
    · exact .inl h0
    · have := h0 _ (ents_at hs.ok hi)
      rw [hc.start] at this
      cases this

theorem Outer.done (h : Outer G f (ents G).length most A Wk rc) (hs : Sums G w f) : A = sumTo f (ents G).length ∧ sumTo f (ents G).length ≤ most := by
  have := hs.len
  have ha := h.a
  rcases h.ok with h0 | h0
  · exact ⟨ha, by rw [← ha]; exact h0⟩
  · omega

/-- The ghost of the inner loop: so many rounds at most are to come. -/
def rest (G : Gr) (rc : Nat → Nat) (i : Nat) (S : List Nat) : Nat := (2 * ((G.n : Int) - cnt (vis rc i) G.n) + S.length).toNat

theorem rest_old (hle : cnt (vis rc i) G.n ≤ G.n) : rest G rc i S < rest G rc i (S ++ [v]) := by
  unfold rest
  simp only [List.length_append, List.length_singleton]
  omega

theorem rest_len : S.length ≤ rest G rc i S := by
  have := (cnt_le (vis rc i) G.n).2
  unfold rest
  omega

theorem rest_start (hn : G.n ≤ 256) : rest G rc i [e] ≤ 513 := by
  have := (cnt_le (vis rc i) G.n).1
  unfold rest
  simp only [List.length_singleton]
  omega

theorem succs_len (G : Gr) (v : Nat) : (succs G v).length ≤ 2 := by
  unfold succs
  split
  · simp
  · split <;> simp

theorem rest_new (hv : rc v ≠ i + 1) (hlt : v < G.n) : rest G (setAt rc v (i + 1)) i (S ++ succs G v) < rest G rc i (S ++ [v]) := by
  have hf : vis rc i v = false := by simp [vis, hv]
  have h1 := cnt_upd hf hlt
  have h2 := (cnt_le (upd (vis rc i) v) G.n).2
  have h3 := succs_len G v
  unfold rest
  rw [vis_setAt]
  simp only [List.length_append, List.length_singleton]
  omega

end
end Go.Proofs.Ybulkccoo.Gx
