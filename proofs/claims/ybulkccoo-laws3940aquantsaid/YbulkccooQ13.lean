import Derived.Test.YbulkccooQ12
import Derived.Deep.CutBlock
namespace Go.Proofs.Ybulkccoo
open Go.RowKit
namespace Qx

/-- A slice of runes that the call has made holds Q. -/
def Own (w wc : World) (v : Value) (Q : List Int) : Prop :=
  ∃ g cap : Nat, v = .slice (some ⟨g, 0, none⟩) Q.length cap ∧ wc.ownsRow w.heap.size 21 1 (.slice (some ⟨g, 0, none⟩) Q.length cap) Q.length (Q.map (Value.int .i32)) ∧ Below w.heap.size w wc

theorem Own.new {w wc : World} (hb : Below w.heap.size w wc) (Q : List Int) (cs : Array Value) (hcs : cs.toList = Q.map (Value.int .i32)) (hQ : Q.length ≤ 10) : Own w (wc.alloc (.cells cs 21)) (.slice (some ⟨wc.heap.size, 0, none⟩) Q.length Q.length) Q := by
  have hl : cs.size = Q.length := by rw [← Array.length_toList, hcs]; simp
  refine ⟨wc.heap.size, Q.length, rfl, ⟨by simp, .inr ⟨wc.heap.size, Q.length, cs, rfl, hb.size, heap_alloc_new wc _, Nat.le_refl _, by unfold maxLen; omega, by omega, ?_⟩⟩, hb.alloc hb.size _⟩
  rw [hcs, List.take_of_length_le (by simp)]

theorem own_later {w w' : World} {base : Nat} {e : TypeId} {size : Nat} {v : Value} {n : Nat} {xs : List Value} (h : w.ownsRow base e size v n xs) (hb : Below w.heap.size w w') : w'.ownsRow base e size v n xs := by
  obtain ⟨h1, h2⟩ := h
  refine ⟨h1, ?_⟩
  rcases h2 with h2 | ⟨g, cap, cur, a, b, c, d⟩
  · exact .inl h2
  · exact .inr ⟨g, cap, cur, a, b, (hb.block g (Array.getElem?_eq_some_iff.1 c).1).trans c, d⟩

theorem Own.later {w wc w' : World} {v : Value} {Q : List Int} (h : Own w wc v Q) (hb : Below wc.heap.size wc w') : Own w w' v Q := by
  obtain ⟨g, cap, rfl, ho, hb0⟩ := h
  exact ⟨g, cap, rfl, own_later ho hb, hb0.trans (hb.mono hb0.size)⟩

theorem Own.alloc {w wc : World} {v : Value} {Q : List Int} (h : Own w wc v Q) (b : Obj) : Own w (wc.alloc b) v Q :=
  h.later ((Below.refl _ _).alloc (Nat.le_refl _) b)

theorem Own.size {w wc : World} {v : Value} {Q : List Int} (h : Own w wc v Q) : w.heap.size ≤ wc.heap.size := by
  obtain ⟨g, cap, rfl, ho, hb0⟩ := h
  exact hb0.size

theorem Own.below {w wc : World} {v : Value} {Q : List Int} (h : Own w wc v Q) : Below w.heap.size w wc := by
  obtain ⟨g, cap, rfl, ho, hb0⟩ := h
  exact hb0

/-- 'append(q, news...)' where q is Own and the news lie somewhere. -/
theorem wp_own_append {ops : Array Oper} {rest : List Oper} {o : Oper} {a : Act} {Q : Exit → Act → World → Prop} {w wc : World} (hgd : o.guard = none) (s x : Operand)
    (ho : o.op = .call { callee := .builtin .append, args := #[s, x], argTypes := #[24, 24] })
    {v : Value} {Qs : List Int} (hO : Own w wc v Qs) (hs : a.eval s = v) (ad : Addr) (c : Nat) (news : List Int) (hx : a.eval x = .slice (some ad) news.length c)
    (hnews : ∀ j u, (news.map (Value.int .i32))[j]? = some u → wc.cell? (ad.add j) = some u) (hm : 0 < news.length) (hlen : Qs.length + news.length ≤ 100)
    (h : ∀ v' w', Own w w' v' (Qs ++ news) → wpList Yba.prog ops Q rest (a.put o.dst v') w') : wpList Yba.prog ops Q (o :: rest) a wc := by
  obtain ⟨ti, hi, hz0, hz1, hz2⟩ := info_parts info21
  obtain ⟨g, cap, rfl, hown, hb⟩ := hO
  refine wpList_append_lies wc hgd s x 24 ho w.heap.size 21 ti (.int .i32 0) 1 4 Yba.underlying24 hi hz0 hz1 hz2 rfl (by decide) _ Qs.length (Qs.map (Value.int .i32)) hs hown ad news.length c (news.map (Value.int .i32)) hx (by simp) hnews (ints_oneCell .i32 news) hm (by unfold maxLen; omega) (by omega) hb.size _ rfl ?_
  intro g2 c2 w2 hown2 hgrow2 _ _
  exact h _ _ ⟨g2, c2, by simp, by simpa using hown2, hb.grown hgrow2 hb.size (fun j hj => (hown.lt j hj).1)⟩

/-- the cells of a literal that was just laid -/
theorem lit_new (wc : World) (L : List Int) (cs : Array Value) (hcs : cs.toList = L.map (Value.int .i32)) : ∀ j u, (L.map (Value.int .i32))[j]? = some u → (wc.alloc (.cells cs 21)).cell? ((⟨wc.heap.size, 0, none⟩ : Addr).add j) = some u := by
  rw [← hcs]
  exact World.news_of_block (heap_alloc_new wc _)

theorem owned_news {base : Nat} {wc : World} {g cap : Nat} {L : List Int} (h : wc.ownsRow base 21 1 (.slice (some ⟨g, 0, none⟩) L.length cap) L.length (L.map (Value.int .i32))) :
    ∀ j u, (L.map (Value.int .i32))[j]? = some u → wc.cell? ((⟨g, 0, none⟩ : Addr).add j) = some u := fun j u hu => by
  have hadd : (⟨g, 0, none⟩ : Addr).add j = ⟨g, j, none⟩ := by unfold Addr.add; split <;> simp_all
  rw [hadd, h.cellAt j (by have := (List.getElem?_eq_some_iff.1 hu).1; simp at this; omega)]
  exact hu

theorem qlen3 (s f : Int) (n : Nat) (closed : Bool) : (pre s).length ≤ 2 ∧ (mid f n).length ≤ 4 ∧ (clo s closed).length ≤ 2 := by
  refine ⟨?_, ?_, ?_⟩
  · unfold pre; split <;> simp
  · unfold mid
    have := (digs_len n).2
    split
    · simp
    · split
      · simp
      · simp; omega
  · unfold clo
    split
    · split <;> simp
    · simp

theorem Own.made {w wc : World} (hb : Below w.heap.size w wc) (n : Nat) (hn : n ≤ 100) : Own w (wc.alloc (.cells (madeCells #[.int .i32 0] n) 21)) (.slice (some ⟨wc.heap.size, 0, none⟩) 0 n) [] :=
  ⟨wc.heap.size, n, rfl, World.ownsRow_made wc _ n hb.size (by unfold maxLen; omega) (by simp [size_madeCells]), hb.alloc hb.size _⟩

theorem mk24p (n : Nat) (hn : n + 2 ≤ 100) (w : World) : (Instr.makeSlice 24 (.int .i64 0) (.int .i64 ((n : Int) + 2))).run Yba.prog w = .ok (.slice (some ⟨w.heap.size, 0, none⟩) 0 (n + 2)) (w.alloc (.cells (madeCells #[.int .i32 0] (n + 2)) 21)) := by
  have h := mk24 (n + 2) hn w
  rw [show ((n + 2 : Nat) : Int) = (n : Int) + 2 by omega] at h
  exact h

theorem qL_len (k s f : Int) (m n : Nat) (closed : Bool) : 0 < (qL k s f m n closed).length ∧ (qL k s f m n closed).length ≤ 20 := by
  have h1 := qlen3 s f n closed
  have h2 := digs_len m
  unfold qL
  split
  · simp
  · split
    · simp
    · split
      · simp
      · simp; omega

theorem tl_len2 (lz ta : Bool) : (tl lz ta).length ≤ 2 := by
  cases lz <;> cases ta <;> simp [tl]

end Qx
end Go.Proofs.Ybulkccoo
