import Derived.Test.YbulkccooQ7
import Derived.Deep.AppendLies
import Derived.Deep.OwnRows
namespace Go.Proofs.Ybulkccoo
open Go.RowKit
namespace Qx

theorem info21 : (Yba.prog.info? 21).map (fun i => (i.zero, i.size, i.bytes)) = some (some (.int .i32 0), 1, 4) := by kernel_rfl

/-! ### the digits of a number below 1000 -/
def rdig (v : Nat) : List Int :=
  if v = 0 then [] else if v < 10 then [48 + (v : Int)] else if v < 100 then [48 + ((v % 10 : Nat) : Int), 48 + ((v / 10 : Nat) : Int)] else [48 + ((v % 10 : Nat) : Int), 48 + ((v / 10 % 10 : Nat) : Int), 48 + ((v / 100 : Nat) : Int)]

theorem rdig_step (v : Nat) (h0 : 0 < v) (h : v < 1000) : rdig v = (48 + ((v % 10 : Nat) : Int)) :: rdig (v / 10) := by
  unfold rdig
  rw [if_neg (by omega)]
  by_cases h1 : v < 10
  · rw [if_pos h1, if_pos (by omega), Nat.mod_eq_of_lt h1]
  · rw [if_neg h1]
    by_cases h2 : v < 100
    · rw [if_pos h2, if_neg (by omega), if_pos (by omega)]
    · rw [if_neg h2, if_neg (by omega), if_neg (by omega), if_pos (by omega), show v / 10 / 10 = v / 100 by omega]

theorem rdig_zero : rdig 0 = [] := rfl
theorem rdig_len (v : Nat) : (rdig v).length ≤ 3 := by
  unfold rdig
  split
  · simp
  · split
    · simp
    · split <;> simp
theorem rdig_pos (v : Nat) (h : 0 < v) : 0 < (rdig v).length := by
  unfold rdig
  rw [if_neg (by omega)]
  split
  · simp
  · split <;> simp

def digs (v : Nat) : List Int := if v = 0 then [48] else (rdig v).reverse

theorem digs_len (v : Nat) : 0 < (digs v).length ∧ (digs v).length ≤ 3 := by
  unfold digs
  split
  · simp
  · have := rdig_len v
    have := rdig_pos v (by omega)
    simp
    omega

theorem mk24 (n : Nat) (hn : n ≤ 100) (w : World) : (Instr.makeSlice 24 (.int .i64 0) (.int .i64 (n : Int))).run Yba.prog w = .ok (.slice (some ⟨w.heap.size, 0, none⟩) 0 n) (w.alloc (.cells (madeCells #[.int .i32 0] n) 21)) := by
  obtain ⟨ti, hi, hz0, hz1, hz2⟩ := info_parts info21
  have hr := run_make (P := Yba.prog) w 24 21 ti (.int .i32 0) Yba.underlying24 hi hz0 .i64 .i64 0 n (by omega) (by omega) (by rw [hz2]; omega) (by omega)
  simp only [Int.toNat_natCast, hz1, Nat.mul_one] at hr
  exact hr

theorem owns_base {w : World} {base base' : Nat} {e : TypeId} {size : Nat} {v : Value} {n : Nat} {xs : List Value} (h : w.ownsRow base e size v n xs) (hb : base' ≤ base) : w.ownsRow base' e size v n xs := by
  obtain ⟨h1, h2⟩ := h
  refine ⟨h1, ?_⟩
  rcases h2 with h2 | ⟨g, cap, cur, a, b, c⟩
  · exact .inl h2
  · exact .inr ⟨g, cap, cur, a, Nat.le_trans hb b, c⟩

theorem drop_rev (xs : List Int) (k : Nat) (hk : k < xs.length) : (xs.drop k).reverse = (xs.drop (k + 1)).reverse ++ [xs.getD k 0] := by
  rw [List.drop_eq_getElem_cons hk, List.reverse_cons]
  simp [List.getD, hk]

set_option maxHeartbeats 2000000 in
set_option maxRecDepth 10000 in
theorem digits_any (v : Nat) (hv : v < 1000) (w : World) :
    Calls Yba.prog 5 #[.int .i64 v] w fun e w' => ∃ g cap, e = .returned (.slice (some ⟨g, 0, none⟩) (digs v).length cap) ∧ w'.ownsRow w.heap.size 21 1 (.slice (some ⟨g, 0, none⟩) (digs v).length cap) (digs v).length ((digs v).map (Value.int .i32)) ∧ Below w.heap.size w w' := by
  obtain ⟨ti, hi, hz0, hz1, hz2⟩ := info_parts info21
  by_cases h0 : v = 0
  · subst h0
    go_enter Yba.func5, Yba.ntmps5
    go_wp2
    go_ret
    exact ⟨w.heap.size, 1, rfl, ⟨by simp [digs], .inr ⟨w.heap.size, 1, _, rfl, Nat.le_refl _, heap_alloc_new w _, Nat.le_refl _, by decide, rfl, rfl⟩⟩, (Below.refl _ _).alloc (Nat.le_refl _) _⟩
  · have h1 : ¬ ((v : Int) ≤ 0) := by omega
    have HD : Hid (digs v = (rdig v).reverse) := if_neg h0
    have hvl := rdig_len v
    have hvp := rdig_pos v (by omega)
    go_enter Yba.func5, Yba.ntmps5
    go_wp2
    go_loopw [0, 3] (fun x rv wr => ∃ (u : Nat) (xs : List Int), x = .int .i64 u ∧ u < 1000 ∧ wr.ownsRow w.heap.size 21 1 rv xs.length (xs.map (Value.int .i32)) ∧ Hid (xs ++ rdig u = rdig v) ∧ Below w.heap.size w wr) (fun x _ _ => (intOf x).toNat)
    case atStart => exact ⟨v, [], rfl, hv, World.ownsRow_nil _ _ _ _, rfl, Below.refl _ _⟩
    case round =>
      obtain ⟨u, xs, rfl, hu, hown, HX, hb⟩ := hrel
      have hsz := hb.size
      have hxl : xs.length ≤ 3 := by have := congrArg List.length HX.out; simp at this; omega
      by_cases hlt : 0 < u
      · have hst := rdig_step u hlt hu
        have HS : Hid (rdig u = (48 + ((u % 10 : Nat) : Int)) :: rdig (u / 10)) := hst
        clear hst
        go_wp2_with (at_builtin; refine wpList_append_own _ rfl _ _ 24 rfl w.heap.size 21 ti (.int .i32 0) 1 4 Yba.underlying24 hi hz0 hz1 hz2 rfl (by decide) _ _ _ rfl (hown.alloc _) ⟨wr.heap.size, 0, none⟩ 1 1 [.int .i32 (48 + (u : Int) % 10)] rfl rfl (cell_one_new _ _ _) (ints_oneCell .i32 [48 + (u : Int) % 10]) ?c3 ?c4 ?c5 ?_)
        case c3 => unfold maxLen; omega
        case c4 => omega
        case c5 => simp; omega
        intro v' w1 hown' hgrow _
        have hb1 := (hb.alloc hsz _).grown hgrow (by simp; omega) (fun j hj => (hown.lt j hj).1)
        clear hgrow
        go_wp2
        go_roundw
        case rel => exact ⟨u / 10, xs ++ [48 + (u : Int) % 10], by go_num, by omega, by simpa using hown', by show _ = _; rw [← HX.out, HS.out]; simp, hb1⟩
        case measure => simp [intOf]; omega
      · have hu0 : u = 0 := by omega
        subst hu0
        have hxs : xs = rdig v := by have := HX.out; rw [rdig_zero] at this; simpa using this
        subst hxs
        clear HX
        obtain ⟨xs, hxs⟩ : ∃ xs, xs = rdig v := ⟨_, rfl⟩
        rw [← hxs] at hown hxl hvp
        have HX : Hid (xs = rdig v) := hxs
        clear hxs hvl
        obtain ⟨g, rc, rfl, hg1, hg2⟩ := hown.form hvp
        have hcell : ∀ j, j < xs.length → wr.cell? ⟨g, j, none⟩ = some (.int .i32 (xs.getD j 0)) := fun j hj => by
          rw [hown.cellAt j (by omega)]
          simp [List.getD, hj]
        obtain ⟨w2, rfl⟩ : ∃ w2, w2 = wr := ⟨_, rfl⟩
        have hmk := mk24 xs.length (by omega)
        clear hown
        go_wp2
        clear hmk
        go_loopg [4, 5] xs.length (fun gk ov i wr => gk ≤ xs.length ∧ i = .int .i64 ((gk : Int) - 1) ∧ wr.ownsRow w2.heap.size 21 1 ov (xs.length - gk) (((xs.drop gk).reverse).map (Value.int .i32)) ∧ Below w2.heap.size w2 wr)
        case atStart =>
          refine ⟨Nat.le_refl _, rfl, ?_, (Below.refl _ _).alloc (Nat.le_refl _) _⟩
          simp only [Nat.sub_self, List.drop_length, List.reverse_nil, List.map_nil]
          exact World.ownsRow_made w2 _ xs.length (Nat.le_refl _) (by unfold maxLen; omega) (by simp [size_madeCells])
        case round =>
          obtain ⟨hgk, rfl, hown, hb2⟩ := hrel
          have hsz2 := hb2.size
          by_cases hk0 : gk = 0
          · subst hk0
            have hbw := hb.trans (hb2.mono hsz)
            obtain ⟨g3, c3, rfl, _, _⟩ := hown.form (by omega)
            go_wp2
            go_ret
            refine ⟨g3, c3, ?_, ?_, hbw⟩
            · rw [HD.out, ← HX.out]
              simp
            · rw [HD.out, ← HX.out]
              have hown' : wr.ownsRow w2.heap.size 21 1 (.slice (some ⟨g3, 0, none⟩) xs.reverse.length c3) xs.reverse.length (xs.reverse.map (Value.int .i32)) := by simpa using hown
              exact owns_base hown' hsz
          · obtain ⟨j, rfl⟩ : ∃ j, gk = j + 1 := ⟨gk - 1, by omega⟩
            have hj : j < xs.length := by omega
            have hcj : wr.cell? ⟨g, j, none⟩ = some (.int .i32 (xs.getD j 0)) := (hb2.cell (p := ⟨g, j, none⟩) hg2).trans (hcell j hj)
            obtain ⟨x, hx⟩ : ∃ x, x = xs.getD j 0 := ⟨_, rfl⟩
            rw [← hx] at hcj
            have HR : Hid ((xs.drop j).reverse = (xs.drop (j + 1)).reverse ++ [x]) := by rw [hx]; exact drop_rev xs j hj
            clear hx
            have e1 : ((j + 1 : Nat) : Int) - 1 = (j : Int) := by omega
            rw [e1]
            clear e1
            go_wp2_with (at_builtin; refine wpList_append_own _ rfl _ _ 24 rfl w2.heap.size 21 ti (.int .i32 0) 1 4 Yba.underlying24 hi hz0 hz1 hz2 rfl (by decide) _ _ _ rfl (hown.alloc _) ⟨wr.heap.size, 0, none⟩ 1 1 [.int .i32 x] rfl rfl (cell_one_new _ _ _) (ints_oneCell .i32 [x]) ?d3 ?d4 ?d5 ?_)
            case d3 => unfold maxLen; omega
            case d4 => omega
            case d5 => simp; omega
            intro v' w3 hown' hgrow _
            have hb3 := (hb2.alloc (by omega) _).grown hgrow (by simp; omega) (fun j hj => (hown.lt j hj).1)
            clear hgrow
            go_wp2
            go_roundg j
            case measure => omega
            case rel =>
              refine ⟨by omega, rfl, ?_, hb3⟩
              rw [HR.out, List.map_append, show xs.length - j = xs.length - (j + 1) + 1 by omega, List.map_reverse, List.map_drop]
              exact hown'
end Qx
end Go.Proofs.Ybulkccoo
