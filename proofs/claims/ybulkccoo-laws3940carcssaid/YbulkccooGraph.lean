/-
  Plain mathematics for 'LawS3940CArcs': a finite graph by functions on Nat, the least closed set round an entry, the sum of weights over it. No Go in sight.
-/
namespace Go.Proofs.Ybulkccoo.Gx

/-- The program as data: n instructions; op, dot, out, alt, set index; the start; L constraints with their starts. -/
structure Gr where
  n : Nat
  st : Nat
  op : Nat → Nat
  dt : Nat → Bool
  ou : Nat → Nat
  al : Nat → Nat
  si : Nat → Nat
  L : Nat
  lk : Nat → Nat

structure Gr.Ok (G : Gr) : Prop where
  n0 : 0 < G.n
  n1 : G.n ≤ 256
  l1 : G.L ≤ 256
  st : G.st < G.n
  op : ∀ i, G.op i < 5
  ou : ∀ i, G.ou i < G.n
  al : ∀ i, G.al i < G.n
  lk : ∀ i, G.lk i < G.n

def succs (G : Gr) (i : Nat) : List Nat :=
  if G.op i = 1 then [G.ou i, G.al i] else if G.op i = 2 ∨ G.op i = 3 then [G.ou i] else []

theorem succs_lt {G : Gr} (h : G.Ok) (i : Nat) : ∀ j ∈ succs G i, j < G.n := by
  intro j hj
  unfold succs at hj
  split at hj
  · simp at hj
    rcases hj with rfl | rfl
    · exact h.ou i
    · exact h.al i
  · split at hj
    · simp at hj
      subst hj
      exact h.ou i
    · simp at hj

/-! ### the entries -/
def entsTo (G : Gr) : Nat → List Nat
  | 0 => [G.st]
  | k + 1 => if G.op k = 0 then entsTo G k ++ [G.ou k] else entsTo G k

def entsL (G : Gr) : Nat → List Nat
  | 0 => entsTo G G.n
  | j + 1 => entsL G j ++ [G.lk j]

def ents (G : Gr) : List Nat := entsL G G.L

theorem entsTo_len (G : Gr) : ∀ k, 0 < (entsTo G k).length ∧ (entsTo G k).length ≤ k + 1
  | 0 => by simp [entsTo]
  | k + 1 => by
    have := entsTo_len G k
    unfold entsTo
    split <;> (try rw [List.length_append, List.length_singleton]) <;> omega

theorem entsL_len (G : Gr) : ∀ j, 0 < (entsL G j).length ∧ (entsL G j).length ≤ G.n + 1 + j
  | 0 => by
    have := entsTo_len G G.n
    simpa [entsL] using this
  | j + 1 => by
    have := entsL_len G j
    unfold entsL
    simp
    omega

theorem entsTo_lt {G : Gr} (h : G.Ok) : ∀ k, ∀ x ∈ entsTo G k, x < G.n
  | 0 => by simp [entsTo]; exact h.st
  | k + 1 => by
    have ih := entsTo_lt h k
    intro x hx
    unfold entsTo at hx
    split at hx
    · rcases List.mem_append.1 hx with hx | hx
      · exact ih x hx
      · simp at hx; subst hx; exact h.ou k
    · exact ih x hx

theorem entsL_lt {G : Gr} (h : G.Ok) : ∀ j, ∀ x ∈ entsL G j, x < G.n
  | 0 => by simpa [entsL] using entsTo_lt h G.n
  | j + 1 => by
    have ih := entsL_lt h j
    intro x hx
    unfold entsL at hx
    rcases List.mem_append.1 hx with hx | hx
    · exact ih x hx
    · simp at hx; subst hx; exact h.lk j

/-! ### sums over a set of nodes -/
def wsum (wt : Nat → Int) (B : Nat → Bool) : Nat → Int
  | 0 => 0
  | k + 1 => wsum wt B k + if B k = true then wt k else 0

theorem wsum_congr {wt : Nat → Int} {B C : Nat → Bool} : ∀ k, (∀ i, i < k → B i = C i) → wsum wt B k = wsum wt C k
  | 0, _ => rfl
  | k + 1, h => by
    simp only [wsum]
    rw [wsum_congr k (fun i hi => h i (by omega)), h k (by omega)]

def upd (B : Nat → Bool) (i : Nat) : Nat → Bool := fun j => if j = i then true else B j

theorem upd_self (B : Nat → Bool) (i : Nat) : upd B i i = true := by simp [upd]
theorem upd_of {B : Nat → Bool} {i j : Nat} (h : B j = true) : upd B i j = true := by
  unfold upd
  split
  · rfl
  · exact h
theorem upd_inv {B : Nat → Bool} {i j : Nat} (h : upd B i j = true) : j = i ∨ B j = true := by
  unfold upd at h
  split at h
  · exact .inl ‹_›
  · exact .inr h
theorem upd_ne {B : Nat → Bool} {i j : Nat} (h : j ≠ i) : upd B i j = B j := by simp [upd, h]

theorem wsum_upd {wt : Nat → Int} {B : Nat → Bool} {i : Nat} (hi : B i = false) : ∀ k, wsum wt (upd B i) k = wsum wt B k + if i < k then wt i else 0
  | 0 => by simp [wsum]
  | k + 1 => by
    simp only [wsum]
    rw [wsum_upd hi k]
    by_cases e : k = i
    · subst e
      rw [upd_self, hi]
      simp
    · rw [upd_ne e]
      by_cases h : i < k
      · rw [if_pos h, if_pos (by omega : i < k + 1)]
        omega
      · rw [if_neg h, if_neg (by omega : ¬ i < k + 1)]
        omega

theorem wsum_bd {wt : Nat → Int} {M : Int} (h : ∀ i, 0 ≤ wt i ∧ wt i ≤ M) (B : Nat → Bool) : ∀ k : Nat, 0 ≤ wsum wt B k ∧ wsum wt B k ≤ M * k
  | 0 => by simp [wsum]
  | k + 1 => by
    have ih := wsum_bd h B k
    have hk := h k
    simp only [wsum]
    have e : M * ((k + 1 : Nat) : Int) = M * k + M := by
      rw [Int.natCast_add, Int.mul_add]; simp
    rw [e]
    split <;> omega

theorem wsum_mono {wt : Nat → Int} (h : ∀ i, 0 ≤ wt i) {B C : Nat → Bool} : ∀ k, (∀ i, i < k → B i = true → C i = true) → wsum wt B k ≤ wsum wt C k
  | 0, _ => by simp [wsum]
  | k + 1, hs => by
    have ih := wsum_mono h k (fun i hi => hs i (by omega))
    have hk := h k
    have := hs k (by omega)
    simp only [wsum]
    by_cases hb : B k = true
    · rw [if_pos hb, if_pos (this hb)]; omega
    · rw [if_neg hb]; split <;> omega

theorem wsum_empty {wt : Nat → Int} {B : Nat → Bool} : ∀ k, (∀ i, i < k → B i = false) → wsum wt B k = 0
  | 0, _ => rfl
  | k + 1, h => by
    simp only [wsum]
    rw [wsum_empty k (fun i hi => h i (by omega)), h k (by omega)]
    simp

def cnt (B : Nat → Bool) (k : Nat) : Int := wsum (fun _ => 1) B k
theorem cnt_le (B : Nat → Bool) (k : Nat) : 0 ≤ cnt B k ∧ cnt B k ≤ k := by
  have := wsum_bd (wt := fun _ => 1) (M := 1) (by simp) B k
  unfold cnt
  omega
theorem cnt_upd {B : Nat → Bool} {i k : Nat} (hi : B i = false) (hk : i < k) : cnt (upd B i) k = cnt B k + 1 := by
  unfold cnt
  rw [wsum_upd hi k, if_pos hk]

/-! ### the least closed set -/
def Closed (G : Gr) (B : Nat → Bool) : Prop := ∀ i, i < G.n → B i = true → ∀ j ∈ succs G i, B j = true

structure Clo (G : Gr) (e : Nat) (B : Nat → Bool) : Prop where
  start : B e = true
  closed : Closed G B
  least : ∀ C : Nat → Bool, C e = true → Closed G C → ∀ i, i < G.n → B i = true → C i = true

theorem Clo.unique {G : Gr} {e : Nat} {B C : Nat → Bool} (h : Clo G e B) (k : Clo G e C) : ∀ i, i < G.n → B i = C i := by
  intro i hi
  have h1 := h.least C k.start k.closed i hi
  have h2 := k.least B h.start h.closed i hi
  cases hb : B i <;> cases hc : C i <;> simp_all

/-- The weight that is reached from the entry e. -/
def Rs (G : Gr) (wt : Nat → Int) (e : Nat) (x : Int) : Prop := ∃ B, Clo G e B ∧ x = wsum wt B G.n

theorem Rs.unique {G : Gr} {wt : Nat → Int} {e : Nat} {x y : Int} (h : Rs G wt e x) (k : Rs G wt e y) : x = y := by
  obtain ⟨B, hB, rfl⟩ := h
  obtain ⟨C, hC, rfl⟩ := k
  exact wsum_congr _ (hB.unique hC)

def sumTo (f : Nat → Int) : Nat → Int
  | 0 => 0
  | k + 1 => sumTo f k + f k

theorem sumTo_congr {f g : Nat → Int} : ∀ k, (∀ i, i < k → f i = g i) → sumTo f k = sumTo g k
  | 0, _ => rfl
  | k + 1, h => by
    simp only [sumTo]
    rw [sumTo_congr k (fun i hi => h i (by omega)), h k (by omega)]

theorem sumTo_bd {f : Nat → Int} {M : Int} : ∀ k : Nat, (∀ i, i < k → 0 ≤ f i ∧ f i ≤ M) → 0 ≤ sumTo f k ∧ sumTo f k ≤ M * k
  | 0, _ => by simp [sumTo]
  | k + 1, h => by
    have ih := sumTo_bd k (fun i hi => h i (by omega))
    have hk := h k (by omega)
    simp only [sumTo]
    have e : M * ((k + 1 : Nat) : Int) = M * k + M := by
      rw [Int.natCast_add, Int.mul_add]; simp
    rw [e]
    omega

theorem sumTo_mono {f : Nat → Int} {k m : Nat} (hkm : k ≤ m) (h : ∀ i, i < m → 0 ≤ f i) : sumTo f k ≤ sumTo f m := by
  induction m with
  | zero =>
    have : k = 0 := by omega
    subst this
    exact Int.le_refl _
  | succ m ih =>
    by_cases e : k = m + 1
    · subst e; exact Int.le_refl _
    · have := ih (by omega) (fun i hi => h i (by omega))
      have := h m (by omega)
      simp only [sumTo]
      omega

/-- The weight of an instruction. -/
def wt (G : Gr) (W : Nat → Int) (i : Nat) : Int := if G.op i = 0 then (if G.dt i = true then 1 else W (G.si i)) else 0

theorem wt_bd {G : Gr} {W : Nat → Int} (h : ∀ i, 0 ≤ W i ∧ W i ≤ 255) (i : Nat) : 0 ≤ wt G W i ∧ wt G W i ≤ 255 := by
  have := h (G.si i)
  unfold wt
  split
  · split <;> omega
  · omega

/-! ### the model's passes -/
/-- In a pass, at place pc: B is what is reached now, B0 what was reached at the pass's start. -/
structure Pass (G : Gr) (e : Nat) (B0 B : Nat → Bool) (ch : Bool) (pc : Nat) : Prop where
  start : B e = true
  least : ∀ C : Nat → Bool, C e = true → Closed G C → ∀ i, i < G.n → B i = true → C i = true
  same : ch = false → ∀ i, i < pc → B i = true → ∀ j ∈ succs G i, B j = true
  more : cnt B0 G.n + (if ch = true then 1 else 0) ≤ cnt B G.n

theorem Pass.begin {G : Gr} {e : Nat} {B : Nat → Bool} (h : B e = true) (hl : ∀ C : Nat → Bool, C e = true → Closed G C → ∀ i, i < G.n → B i = true → C i = true) : Pass G e B B false 0 :=
  ⟨h, hl, fun _ i hi => by omega, by simp⟩

/-- a node that is not reached is passed over -/
theorem Pass.skip {G : Gr} {e : Nat} {B0 B : Nat → Bool} {ch : Bool} {pc : Nat} (h : Pass G e B0 B ch pc) (hb : B pc = false) : Pass G e B0 B ch (pc + 1) := by
  refine ⟨h.start, h.least, fun hc i hi hbi => ?_, h.more⟩
  by_cases ei : i = pc
  · subst ei; rw [hb] at hbi; cases hbi
  · exact h.same hc i (by omega) hbi

/-- a node whose successors are all reached -/
theorem Pass.stay {G : Gr} {e : Nat} {B0 B : Nat → Bool} {ch : Bool} {pc : Nat} (h : Pass G e B0 B ch pc) (hs : ch = false → ∀ j ∈ succs G pc, B j = true) : Pass G e B0 B ch (pc + 1) := by
  refine ⟨h.start, h.least, fun hc i hi hbi => ?_, h.more⟩
  by_cases ei : i = pc
  · subst ei; exact hs hc
  · exact h.same hc i (by omega) hbi

/-- a successor is marked -/
theorem Pass.mark {G : Gr} {e : Nat} {B0 B : Nat → Bool} {ch : Bool} {pc j : Nat} (h : Pass G e B0 B ch pc) (hpc : pc < G.n) (hb : B pc = true) (hj : j ∈ succs G pc) (hjn : j < G.n) (hbj : B j = false) : Pass G e B0 (upd B j) true pc := by
  refine ⟨upd_of h.start, fun C hC hcl i hi hbi => ?_, (fun hc => by cases hc), ?_⟩
  · rcases upd_inv hbi with rfl | hbi
    · exact hcl pc hpc (h.least C hC hcl pc hpc hb) _ hj
    · exact h.least C hC hcl i hi hbi
  · have := h.more
    rw [cnt_upd hbj hjn]
    simp only [if_true]
    split at this <;> omega

theorem Pass.done {G : Gr} {e : Nat} {B0 B : Nat → Bool} (h : Pass G e B0 B false G.n) : Clo G e B :=
  ⟨h.start, fun i hi hb => h.same rfl i hi hb, h.least⟩

/-! ### the search with a stack -/
structure Dfs (G : Gr) (e : Nat) (V : Nat → Bool) (S : List Nat) : Prop where
  start : V e = true ∨ e ∈ S
  leastV : ∀ C : Nat → Bool, C e = true → Closed G C → ∀ i, i < G.n → V i = true → C i = true
  leastS : ∀ C : Nat → Bool, C e = true → Closed G C → ∀ i ∈ S, C i = true
  closed : ∀ i, i < G.n → V i = true → ∀ j ∈ succs G i, V j = true ∨ j ∈ S
  bd : ∀ i ∈ S, i < G.n

theorem Dfs.begin {G : Gr} {e : Nat} (he : e < G.n) {V : Nat → Bool} (hV : ∀ i, i < G.n → V i = false) : Dfs G e V [e] :=
  ⟨.inr (by simp), (fun C _ _ i hi h => by rw [hV i hi] at h; cases h), (fun C hC _ i hi => by simp at hi; subst hi; exact hC), (fun i hi h => by rw [hV i hi] at h; cases h), fun i hi => by simp at hi; subst hi; exact he⟩

theorem Dfs.old {G : Gr} {e v : Nat} {V : Nat → Bool} {S : List Nat} (h : Dfs G e V (S ++ [v])) (hv : V v = true) : Dfs G e V S := by
  refine ⟨?_, h.leastV, fun C hC hcl i hi => h.leastS C hC hcl i (by simp [hi]), fun i hi hb j hj => ?_, fun i hi => h.bd i (by simp [hi])⟩
  · rcases h.start with hs | hs
    · exact .inl hs
    · rcases List.mem_append.1 hs with hs | hs
      · exact .inr hs
      · simp at hs; subst hs; exact .inl hv
  · rcases h.closed i hi hb j hj with hs | hs
    · exact .inl hs
    · rcases List.mem_append.1 hs with hs | hs
      · exact .inr hs
      · simp at hs; subst hs; exact .inl hv

theorem Dfs.new {G : Gr} {e v : Nat} {V : Nat → Bool} {S : List Nat} (hG : G.Ok) (h : Dfs G e V (S ++ [v])) : Dfs G e (upd V v) (S ++ succs G v) := by
  have hv : v < G.n := h.bd v (by simp)
  have keep : ∀ {x : Nat}, V x = true ∨ x ∈ S ++ [v] → upd V v x = true ∨ x ∈ S ++ succs G v := by
    intro x hx
    rcases hx with hx | hx
    · exact .inl (upd_of hx)
    · rcases List.mem_append.1 hx with hx | hx
      · exact .inr (by simp [hx])
      · simp at hx; subst hx; exact .inl (upd_self _ _)
  refine ⟨keep h.start, fun C hC hcl i hi hb => ?_, fun C hC hcl i hi => ?_, fun i hi hb j hj => ?_, fun i hi => ?_⟩
  · rcases upd_inv hb with rfl | hb
    · exact h.leastS C hC hcl _ (by simp)
    · exact h.leastV C hC hcl i hi hb
  · rcases List.mem_append.1 hi with hi | hi
    · exact h.leastS C hC hcl i (by simp [hi])
    · exact hcl v hv (h.leastS C hC hcl v (by simp)) i hi
  · rcases upd_inv hb with rfl | hb
    · exact .inr (by simp [hj])
    · exact keep (h.closed i hi hb j hj)
  · rcases List.mem_append.1 hi with hi | hi
    · exact h.bd i (by simp [hi])
    · exact succs_lt hG v i hi

theorem Dfs.done {G : Gr} {e : Nat} {V : Nat → Bool} (h : Dfs G e V []) : Clo G e V := by
  refine ⟨?_, fun i hi hb j hj => ?_, h.leastV⟩
  · rcases h.start with hs | hs
    · exact hs
    · simp at hs
  · rcases h.closed i hi hb j hj with hs | hs
    · exact hs
    · simp at hs

/-- What the search has gathered so far is no more than what is reached. -/
theorem Dfs.le {G : Gr} {e : Nat} {V : Nat → Bool} {S : List Nat} {w : Nat → Int} (hw : ∀ i, 0 ≤ w i) (h : Dfs G e V S) {x : Int} (hx : Rs G w e x) : wsum w V G.n ≤ x := by
  obtain ⟨B, hB, rfl⟩ := hx
  exact wsum_mono hw _ (fun i hi hb => h.leastV B hB.start hB.closed i hi hb)

end Go.Proofs.Ybulkccoo.Gx
