import Derived.Test.YbulkccooQ10
namespace Go.Proofs.Ybulkccoo
open Go.RowKit
namespace Qx

theorem noDig_rest (s : Int) (closed lz ta : Bool) : noDig (clo s closed ++ tl lz ta) := by
  cases closed
  · have hc : clo s false = [] := rfl
    rw [hc]
    cases lz <;> cases ta
    · exact .inl rfl
    · exact .inr rfl
    · exact .inr rfl
    · exact .inr rfl
  · by_cases hs : s = 2
    · subst hs; exact .inr rfl
    · have hc : clo s true = [125] := by unfold clo; rw [if_pos rfl, if_neg hs]
      rw [hc]; exact .inr rfl

theorem rest_head (s : Int) (closed lz ta : Bool) : (clo s closed ++ tl lz ta) = [] ∨ (clo s closed ++ tl lz ta).getD 0 0 ≠ 44 := by
  cases closed
  · have hc : clo s false = [] := rfl
    rw [hc]
    cases lz <;> cases ta
    · exact .inl rfl
    · right; show (97 : Int) ≠ 44; decide
    · right; show (63 : Int) ≠ 44; decide
    · right; show (63 : Int) ≠ 44; decide
  · by_cases hs : s = 2
    · subst hs; right; show (92 : Int) ≠ 44; decide
    · have hc : clo s true = [125] := by unfold clo; rw [if_pos rfl, if_neg hs]
      rw [hc]; right; show (125 : Int) ≠ 44; decide

theorem dig_end (A B T : List Int) (hT : T = A ++ B) (hB : noDig B) : dig T.length (fun i => T.getD i 0) A.length = false := by
  rcases hB with rfl | hB
  · have : T.length = A.length := by rw [hT]; simp
    simp [dig, this]
  · have e : T.getD A.length 0 = B.getD 0 0 := by rw [hT]; exact getD_end A B
    simp only [dig]
    rw [e, hB]
    simp

theorem peek_no (A B T : List Int) (hT : T = A ++ B) (c : Int) (hB : B = [] ∨ B.getD 0 0 ≠ c) : peek T.length (fun i => T.getD i 0) A.length c = false := by
  rcases hB with rfl | hB
  · have : T.length = A.length := by rw [hT]; simp
    simp [peek, this]
  · have e : T.getD A.length 0 = B.getD 0 0 := by rw [hT]; exact getD_end A B
    simp only [peek]
    rw [e, beq_eq_false_iff_ne.2 hB]
    simp

def wErr (f : Int) (m n : Nat) (closed lz ta : Bool) : Value :=
  if 255 < m then eCount else if f = 2 ∧ 255 < n then eCount else if closed = false ∧ lz = false ∧ ta = false then eBraces else if closed = false then eCount else if f = 2 ∧ n < m then eCount else .nilIface
def wMax (f : Int) (m n : Nat) : Int := if f = 0 then m else if f = 1 then -1 else n
def wPref (f : Int) : Int := if f = 0 then 0 else 1
def fPref (s : Int) (lz : Bool) (p : Int) : Int := if s = 0 ∧ lz = true then (if p = 0 then 0 else 2) else p
def fPos (s : Int) (lz : Bool) (q : Nat) : Nat := if s = 0 ∧ lz = true then q + 1 else q

/-- what stands behind the first number -/
theorem mid_at (s f : Int) (hf : f = 0 ∨ f = 1 ∨ f = 2) (m n : Nat) (hm : m < 1000) (hn : n < 1000) (closed lz ta : Bool) (T : List Int) (hT : T = pre s ++ (digs m ++ (mid f n ++ (clo s closed ++ tl lz ta)))) (hn2 : ¬ (f = 2 ∧ 255 < n)) :
    Mid T.length (fun i => T.getD i 0) ((pre s).length + (digs m).length) (dv (digs m) (digs m).length) ((pre s).length + ((digs m).length + (mid f n).length)) (wMax f m n) (wPref f) 1 := by
  obtain ⟨hv, _⟩ := digs_facts m hm
  constructor
  rcases hf with rfl | rfl | rfl
  · left
    have h0 : mid 0 n = [] := rfl
    rw [h0] at hT ⊢
    refine ⟨?_, by simp, ?_, rfl⟩
    · have := peek_no (pre s ++ digs m) (clo s closed ++ tl lz ta) T (by rw [hT]; simp) 44 (rest_head s closed lz ta)
      rw [List.length_append] at this
      exact this
    · rw [hv]; rfl
  · right; left
    have h0 : mid 1 n = [44] := rfl
    rw [h0] at hT ⊢
    have hT2 : T = (pre s ++ digs m) ++ (44 :: (clo s closed ++ tl lz ta)) := by rw [hT]; simp
    refine ⟨by rw [hT2]; simp, ?_, ?_, by simp; omega, rfl, rfl⟩
    · show T.getD ((pre s).length + (digs m).length) 0 = 44
      rw [← List.length_append, hT2, getD_end]
      rfl
    · have := dig_end (pre s ++ digs m ++ [44]) (clo s closed ++ tl lz ta) T (by rw [hT]; simp) (noDig_rest s closed lz ta)
      simp only [List.length_append, List.length_singleton] at this
      exact this
  · right; right
    have h0 : mid 2 n = 44 :: digs n := rfl
    rw [h0] at hT ⊢
    obtain ⟨hv2, _⟩ := digs_facts n hn
    have hT2 : T = (pre s ++ digs m) ++ (44 :: (digs n ++ (clo s closed ++ tl lz ta))) := by rw [hT]; simp
    have hnum := num_at (pre s ++ digs m ++ [44]) (clo s closed ++ tl lz ta) T n hn (by rw [hT]; simp) (noDig_rest s closed lz ta)
    simp only [List.length_append, List.length_singleton] at hnum
    refine ⟨by rw [hT2]; simp, ?_, (digs n).length, dv (digs n), (digs_len n).1, hnum, by rw [hv2]; omega, by simp; omega, ?_, rfl⟩
    · show T.getD ((pre s).length + (digs m).length) 0 = 44
      rw [← List.length_append, hT2, getD_end]
      rfl
    · rw [hv2]; rfl

theorem eCount_is : eCount = .iface 29 (.string { data := #[105, 110, 118, 97, 108, 105, 100, 32, 114, 101, 112, 101, 116, 105, 116, 105, 111, 110, 32, 99, 111, 117, 110, 116, 40, 115, 41] }) := rfl
theorem eBraces_is : eBraces = .iface 29 (.string { data := #[98, 114, 97, 99, 101, 115, 32, 123, 125, 32, 110, 111, 116, 32, 98, 97, 108, 97, 110, 99, 101, 100] }) := rfl

/-- 'counts' at the text: it refuses with the error that is wanted, or takes the bound. -/
theorem counts_at (s f : Int) (hs : s = 0 ∨ s = 1 ∨ s = 2) (hf : f = 0 ∨ f = 1 ∨ f = 2) (m n : Nat) (hm : m < 1000) (hn : n < 1000) (closed lz ta : Bool) (T : List Int) (hT : T = pre s ++ (digs m ++ (mid f n ++ (clo s closed ++ tl lz ta))))
    (pb sb cap rb : Nat) (sub : Value) (W : World) (hp : Ps W pb sb T.length cap (fun i => T.getD i 0) (pre s).length s) (hr : Nd W rb sub 0 0 1) (hrp : rb ≠ pb) (hrs : rb ≠ sb) :
    (∀ E, wErr f m n closed lz ta = .iface 29 (.string E) → Calls Yba.prog 10 #[.pointer (some ⟨pb, 0, none⟩), .pointer (some ⟨rb, 0, none⟩)] W fun e w' => e = .returned (.iface 29 (.string E)) ∧ Two pb rb W w') ∧
    (wErr f m n closed lz ta = .nilIface → Calls Yba.prog 10 #[.pointer (some ⟨pb, 0, none⟩), .pointer (some ⟨rb, 0, none⟩)] W fun e w' => e = .returned .nilIface ∧ Two pb rb W w' ∧
      Ps w' pb sb T.length cap (fun i => T.getD i 0) ((pre s).length + ((digs m).length + (mid f n).length) + (clo s closed).length) s ∧ Nd w' rb sub m (wMax f m n) (wPref f)) := by
  obtain ⟨hv, _⟩ := digs_facts m hm
  have hB1 : noDig (mid f n ++ (clo s closed ++ tl lz ta)) := by
    rcases hf with rfl | rfl | rfl
    · exact noDig_rest s closed lz ta
    · exact .inr rfl
    · exact .inr rfl
  have hN1 := num_at (pre s) (mid f n ++ (clo s closed ++ tl lz ta)) T m hm hT hB1
  by_cases h1 : 255 < m
  · have hw : wErr f m n closed lz ta = eCount := if_pos h1
    have hc := counts_bad1 W pb sb _ cap _ _ s hp rb _ _ hN1 (by rw [hv]; omega)
    rw [hw]
    refine ⟨fun E hE => ?_, fun h => by cases h⟩
    rw [hE] at hc
    exact hc
  · by_cases h2 : f = 2 ∧ 255 < n
    · obtain ⟨rfl, h2⟩ := h2
      obtain ⟨hv2, _⟩ := digs_facts n hn
      have hw : wErr 2 m n closed lz ta = eCount := by unfold wErr; rw [if_neg h1, if_pos ⟨rfl, h2⟩]
      have h0 : mid 2 n = 44 :: digs n := rfl
      rw [h0] at hT
      have hT2 : T = (pre s ++ digs m) ++ (44 :: (digs n ++ (clo s closed ++ tl lz ta))) := by rw [hT]; simp
      have hnum := num_at (pre s ++ digs m ++ [44]) (clo s closed ++ tl lz ta) T n hn (by rw [hT]; simp) (noDig_rest s closed lz ta)
      simp only [List.length_append, List.length_singleton] at hnum
      have h44 : T.getD ((pre s).length + (digs m).length) 0 = 44 := by
        rw [← List.length_append, hT2, getD_end]
        rfl
      have hc := counts_bad2 W pb sb _ cap _ _ s hp rb _ _ hN1 (by rw [hv]; omega) (by rw [hT2]; simp) h44 _ _ (digs_len n).1 hnum (by rw [hv2]; omega)
      rw [hw]
      refine ⟨fun E hE => ?_, fun h => by cases h⟩
      rw [hE] at hc
      exact hc
    · have hM := mid_at s f hf m n hm hn closed lz ta T hT h2
      have hTA : T = (pre s ++ (digs m ++ mid f n)) ++ (clo s closed ++ tl lz ta) := by rw [hT]; simp
      have hAl : (pre s ++ (digs m ++ mid f n)).length = (pre s).length + ((digs m).length + (mid f n).length) := by simp
      have hTl : T.length = (pre s).length + ((digs m).length + (mid f n).length) + ((clo s closed).length + (tl lz ta).length) := by rw [hTA]; simp; omega
      have hsk := fun hq w1 hp1 => skip_at (pre s ++ (digs m ++ mid f n)) T s closed lz ta hTA pb sb cap hq w1 hp1
      rw [hAl] at hsk
      have hc := counts_main W pb sb _ cap _ _ s hp rb sub 0 0 1 hr hrp hrs _ _ hN1 (by rw [hv]; omega) _ _ _ hM (by omega) closed _ hsk
      rw [hv] at hc
      cases closed
      · have hcl : clo s false = [] := rfl
        rw [hcl] at hTl
        by_cases h3 : lz = false ∧ ta = false
        · have hw : wErr f m n false lz ta = eBraces := by unfold wErr; rw [if_neg h1, if_neg h2, if_pos ⟨rfl, h3⟩]
          have htl : tl lz ta = [] := by rw [h3.1, h3.2]; rfl
          rw [htl] at hTl
          simp at hTl
          rw [hw]
          refine ⟨fun E hE => ?_, fun h => by cases h⟩
          rw [← hE]
          refine hc.mono ?_
          rintro e w' ⟨hT', ⟨_, he⟩ | ⟨hq, _⟩ | ⟨hq, _⟩⟩
          · exact ⟨he, hT'⟩
          · omega
          · omega
        · have hw : wErr f m n false lz ta = eCount := by unfold wErr; rw [if_neg h1, if_neg h2, if_neg (by intro h; exact h3 h.2), if_pos rfl]
          have htl : 0 < (tl lz ta).length := by
            cases lz <;> cases ta <;> simp [tl] at h3 ⊢
          rw [hw]
          refine ⟨fun E hE => ?_, fun h => by cases h⟩
          rw [← hE]
          refine hc.mono ?_
          rintro e w' ⟨hT', ⟨hq, _⟩ | ⟨_, _, he⟩ | ⟨_, hx, _⟩⟩
          · simp at hTl; omega
          · exact ⟨he, hT'⟩
          · cases hx
      · have hcl : 0 < (clo s true).length := by
          rcases hs with rfl | rfl | rfl <;> simp [clo]
        by_cases h4 : f = 2 ∧ n < m
        · have hw : wErr f m n true lz ta = eCount := by unfold wErr; rw [if_neg h1, if_neg h2, if_neg (by simp), if_neg (by simp), if_pos h4]
          have hmx : wMax f m n = n := by rw [h4.1]; rfl
          rw [hw]
          refine ⟨fun E hE => ?_, fun h => by cases h⟩
          rw [← hE]
          refine hc.mono ?_
          rintro e w' ⟨hT', ⟨hq, _⟩ | ⟨_, _, he⟩ | ⟨_, _, hx, _⟩⟩
          · omega
          · exact ⟨he, hT'⟩
          · rw [hmx] at hx
            omega
        · have hw : wErr f m n true lz ta = .nilIface := by unfold wErr; rw [if_neg h1, if_neg h2, if_neg (by simp), if_neg (by simp), if_neg h4]
          have hmx : ¬ (0 ≤ wMax f m n ∧ wMax f m n < m) := by
            rcases hf with rfl | rfl | rfl
            · have : wMax 0 m n = m := rfl
              rw [this]; omega
            · have : wMax 1 m n = -1 := rfl
              rw [this]; omega
            · have : wMax 2 m n = n := rfl
              rw [this]; omega
          rw [hw]
          refine ⟨fun E hE => (by cases hE), fun _ => ?_⟩
          refine hc.mono ?_
          rintro e w' ⟨hT', ⟨hq, _⟩ | ⟨_, hx, _⟩ | ⟨_, _, _, he, hp', hn'⟩⟩
          · omega
          · rcases hx with hx | hx
            · cases hx
            · exact absurd hx hmx
          · exact ⟨he, hT', hp', hn'⟩

/-- 'repeat' at a bound. -/
theorem rep_bound (s f : Int) (hs : s = 0 ∨ s = 1 ∨ s = 2) (hf : f = 0 ∨ f = 1 ∨ f = 2) (m n : Nat) (hm : m < 1000) (hn : n < 1000) (closed lz ta : Bool) (T : List Int) (hT : T = pre s ++ (digs m ++ (mid f n ++ (clo s closed ++ tl lz ta))))
    (pb sb cap : Nat) (atom : Option Addr) (w : World) (hp : Ps w pb sb T.length cap (fun i => T.getD i 0) 0 s) :
    (∀ E, wErr f m n closed lz ta = .iface 29 (.string E) → Calls Yba.prog 6 #[.pointer (some ⟨pb, 0, none⟩), .pointer atom] w fun e w' => e = .returned (.tuple #[.pointer none, .iface 29 (.string E)]) ∧ w.grownBy w' (some pb)) ∧
    (wErr f m n closed lz ta = .nilIface → Calls Yba.prog 6 #[.pointer (some ⟨pb, 0, none⟩), .pointer atom] w fun e w' =>
      RepGood pb sb T.length cap (fun i => T.getD i 0) s (.pointer atom) m (wMax f m n) (fPref s lz (wPref f)) (fPos s lz ((pre s).length + ((digs m).length + (mid f n).length) + (clo s closed).length)) w e w') := by
  have hpl : 0 < (pre s).length := by rcases hs with rfl | rfl | rfl <;> simp [pre]
  have hTl : (pre s).length ≤ T.length := by rw [hT]; simp
  have hch : (T.getD 0 0 = 123 ∧ (pre s).length = 1) ∨ (T.getD 0 0 = 92 ∧ (pre s).length = 2) := by
    rw [hT]
    rcases hs with rfl | rfl | rfl
    · exact .inl ⟨rfl, rfl⟩
    · exact .inl ⟨rfl, rfl⟩
    · exact .inr ⟨rfl, rfl⟩
  have hcnt := fun (W : World) (hR : Rp w W pb sb T.length cap (fun i => T.getD i 0) (pre s).length s (.pointer atom) 0 0 1) =>
    counts_at s f hs hf m n hm hn closed lz ta T hT pb sb cap (w.heap.size + 1) (.slice (some ⟨w.heap.size, 0, none⟩) 1 1) W hR.ps hR.nd (by have := hR.pl; omega) (by have := hR.sl; omega)
  refine ⟨fun E hE => ?_, fun hE => ?_⟩
  · exact repeat_err w pb sb _ cap _ s hp atom (by omega) (pre s).length hch hTl E (fun W hR => (hcnt W hR).1 E hE)
  · refine repeat_good w pb sb _ cap _ s hp atom (by omega) (pre s).length hch hTl m (wMax f m n) (wPref f) ((pre s).length + ((digs m).length + (mid f n).length) + (clo s closed).length) (by unfold wPref; split <;> omega) (fun W hR => (hcnt W hR).2 hE) _ _ ?_
    have hTA : T = (pre s ++ (digs m ++ (mid f n ++ clo s closed))) ++ tl lz ta := by rw [hT]; simp
    have hAl : (pre s ++ (digs m ++ (mid f n ++ clo s closed))).length = (pre s).length + ((digs m).length + (mid f n).length) + (clo s closed).length := by simp; omega
    cases lz
    · right
      refine ⟨.inr ?_, by simp [fPref], by simp [fPos]⟩
      have := peek_no (pre s ++ (digs m ++ (mid f n ++ clo s closed))) (tl false ta) T hTA 63 (by
        cases ta
        · exact .inl rfl
        · right; show (97 : Int) ≠ 63; decide)
      rw [hAl] at this
      exact this
    · by_cases h0 : s = 0
      · left
        refine ⟨h0, ?_, ?_, by simp [fPref, h0], by simp [fPos, h0]⟩
        · rw [← hAl, hTA]
          cases ta <;> simp [tl]
        · show T.getD _ 0 = 63
          rw [← hAl, hTA, getD_end]
          cases ta <;> rfl
      · right
        exact ⟨.inl h0, by simp [fPref, h0], by simp [fPos, h0]⟩

end Qx
end Go.Proofs.Ybulkccoo
