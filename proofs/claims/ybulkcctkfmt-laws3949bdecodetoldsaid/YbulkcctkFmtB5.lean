import Derived.Test.YbulkcctkFmtB4
import Derived.Laws.AppendOwnNone
import Derived.OwnWalk
namespace Go.Proofs.YbulkcctkFmt
open Go.RowKit
namespace Bx

/-- bytes.Equal of the same bytes -/
theorem equal_same (w : World) (p1 p2 : Option Addr) (l : List UInt8) (n m : Nat) (c d : Nat) (hn : l.length = n) (hm : l.length = m) (h1 : Bs w p1 l) (h2 : Bs w p2 l) :
    Calls Ybaf.prog 13 #[.slice p1 n c, .slice p2 m d] w fun e w' => e = .returned (.bool true) ∧ w' = w := by
  have key : ∀ p, Bs w p l → Lib.BytesIn w p l.length (l.map fun b => (b.toNat : Int)) := fun p h => by
    intro hpos
    obtain ⟨g, o, hp, hc⟩ := h.resolve_left (by rintro rfl; simp at hpos)
    refine ⟨g, o, hp, fun i hi => ?_⟩
    rw [hc i hi]
    simp [List.getD, hi]
  subst hn
  obtain rfl := hm
  have h := Ybaf.bytes_Equal_all p1 p2 l.length c l.length d (l.map fun b => (b.toNat : Int)) (l.map fun b => (b.toNat : Int)) w (by simp) (by simp) (key _ h1) (key _ h2)
  simpa using h

/-- the bytes of a row that the call owns -/
theorem Bs.owned {w : World} {B : Nat} {v : Value} {n : Nat} {l : List UInt8} (h : w.ownsRow B 5 1 v n (Lib.byteCells l)) : ∃ p c, v = .slice p l.length c ∧ l.length ≤ c ∧ Bs w p l := by
  obtain ⟨hl, h⟩ := h
  have hl' : l.length = n := by simpa [Lib.byteCells] using hl
  rcases h with ⟨rfl, h0⟩ | ⟨g, cap, cur, rfl, hb, hh, hn, hcap, hcur, ht⟩
  · have : l = [] := List.eq_nil_of_length_eq_zero (by omega)
    subst this
    exact ⟨none, 0, rfl, Nat.le_refl _, .inl rfl⟩
  · subst hl'
    refine ⟨some ⟨g, 0, none⟩, cap, rfl, hn, .inr ⟨g, 0, rfl, fun j hj => ?_⟩⟩
    rw [cell_of_row w g _ _ _ _ hh, Nat.zero_add]
    have h1 : (cur.toList.take (l.length * 1))[j]? = (Lib.byteCells l)[j]? := by rw [ht]
    rw [List.getElem?_take, if_pos (by omega)] at h1
    rw [← Array.getElem?_toList, h1]
    simp [Lib.byteCells, hj]

/-- what the law is told of its arguments -/
structure Bin (w : World) (a0 a1 : Option Addr) (vals : List Nat) (tl : List UInt8) (c1 : Nat) : Prop where
  vl : vals.length ≤ 1024
  tlen : tl.length ≤ 1024
  vc : vals = [] ∨ ∃ g o, a0 = some ⟨g, o, none⟩ ∧ ∀ j (hj : j < vals.length), w.cell? ⟨g, o + j, none⟩ = some (.int .u64 (vals[j] : Int))
  vb : ∀ v ∈ vals, v < 18446744073709551616
  tb : Bs w a1 tl
  tn : a1 = none → tl = [] ∧ c1 = 0

/-- between two rounds of the first loop -/
def L1 (w : World) (vals : List Nat) (v i : Value) (wr : World) : Prop :=
  ∃ k, k ≤ vals.length ∧ i = .int .i64 (k : Nat) ∧ wr.ownsRow w.heap.size 5 1 v (encs (vals.take k)).length (Lib.byteCells (encs (vals.take k))) ∧ Below w.heap.size w wr

theorem encs_length : ∀ (vals : List Nat), (∀ v ∈ vals, v < 18446744073709551616) → (encs vals).length ≤ 10 * vals.length
  | [], _ => by simp [encs]
  | v :: vs, h => by
    have h1 := encs_length vs (fun x hx => h x (List.mem_cons_of_mem _ hx))
    have h2 := Lib.uvarint_length64 (h v (List.mem_cons_self ..))
    rw [encs_cons, List.length_append, List.length_cons]
    omega

theorem byteCells_append (a b : List UInt8) : Lib.byteCells (a ++ b) = Lib.byteCells a ++ Lib.byteCells b := by simp [Lib.byteCells]

theorem info5 : (Ybaf.prog.info? 5).map (fun i => (i.zero, i.size, i.bytes)) = some (some (.int .u8 0), 1, 1) := by kernel_rfl

set_option maxHeartbeats 4000000 in
set_option maxRecDepth 100000 in
theorem law_in (w : World) (a0 a1 : Option Addr) (vals : List Nat) (tl : List UInt8) (c0 c1 : Nat) (h : Bin w a0 a1 vals tl c1) :
    Calls Ybaf.prog 6 #[.slice a0 vals.length c0, .slice a1 tl.length c1] w fun e w' => e = .returned (.bool true) ∧ Below w.heap.size w w' := by
  have hvl := h.vl
  have htl := h.tlen
  have hvl' : ¬ ((1024 : Int) < (vals.length : Int)) := by omega
  have htl' : ¬ ((1024 : Int) < (tl.length : Int)) := by omega
  obtain ⟨ti, hti, hz0, hz1, hz2⟩ : ∃ ti, Ybaf.prog.info? 5 = some ti ∧ ti.zero = some (.int .u8 0) ∧ ti.size = 1 ∧ ti.bytes = 1 := by
    obtain ⟨ti, h1, h2⟩ := Option.map_eq_some_iff.1 info5
    simp only [Prod.mk.injEq] at h2
    exact ⟨ti, h1, h2.1, h2.2.1, h2.2.2⟩
  go_enter Ybaf.func6, Ybaf.ntmps6
  go_wp2_with fail
  go_loopw [5, 6] (fun v i wr => L1 w vals v i wr) (fun _ i _ => vals.length - (intOf i).toNat)
  case atStart => exact ⟨0, Nat.zero_le _, rfl, World.ownsRow_nil _ _ _ _, Below.refl _ _⟩
  case round =>
    obtain ⟨k, hk, rfl, hown, hB⟩ := hrel
    by_cases hlt : k < vals.length
    · obtain ⟨g, o, rfl, hcell⟩ := h.vc.resolve_left (by rintro rfl; simp at hlt)
      have hc := cell_later hB (hcell k hlt)
      have hx := h.vb _ (List.getElem_mem hlt)
      have hk0 : (0 : Int) ≤ (k : Int) := by omega
      have hk1 : (k : Int) < (vals.length : Int) := by omega
      have hlen := encs_length (vals.take k) (fun v hv => h.vb v (List.mem_of_mem_take hv))
      have htk : (vals.take k).length = k := by simp; omega
      have hcall := Ybaf.binary_AppendUvarint w.heap.size _ vals[k] hx _ _ wr hown hB.size (by omega)
      rw [← byteCells_append, ← List.length_append] at hcall
      have hstep : encs (vals.take k) ++ Lib.uvarint vals[k] = encs (vals.take (k + 1)) := by
        rw [List.take_succ_eq_append_getElem hlt, encs_append, encs_one]
      rw [hstep] at hcall
      generalize hX : vals[k] = X at *
      clear hown hcell hlen hstep
      go_wp2_with (go_at_call 14; refine hcall.mono ?_; rintro e wx ⟨v', rfl, hown', hB'⟩)
      exact ⟨⟨k + 1, hlt, by simp, hown', hB.trans hB'⟩, by simp [intOf]; omega⟩
    · obtain rfl : k = vals.length := by omega
      rw [List.take_length] at hown
      have hdec := decs_encs vals h.vb tl vals.length (Nat.le_refl _)
      rw [List.take_length] at hdec
      have hd1 : (encs vals ++ tl).drop (encs vals).length = tl := by simp
      have hd2 : (encs vals ++ tl).length - (encs vals).length = tl.length := by simp
      have hel := encs_length vals h.vb
      have hBz := hB.size
      cases ha : a1 with
      | none =>
        obtain ⟨rfl, rfl⟩ := h.tn ha
        go_wp2_with (at_builtin; refine wpList_append_own_none rfl _ _ 22 rfl w.heap.size 5 ti 1 Ybaf.underlying22 hti _ _ _ rfl hown rfl ?_)
        have hB2 := hB
        have hown2 := hown
        rw [← List.append_nil (encs vals)] at hown2
        clear hown hB
        subst ha
        generalize hE : encs vals ++ [] = Eb at hown2 hdec hd1 hd2
        generalize hM : (encs vals).length = Mb at hdec hd1 hd2
        obtain ⟨p2, c2, rfl, hc2, hBs2⟩ := Bs.owned hown2
        have hU := uvarints_any wr vals.length p2 Eb c2 .nilIface hvl hBs2 hc2 (fun e => absurd e (by rw [hdec]; simp))
        clear hown2 hBs2
        go_wp2_with (go_at_call 12; refine hU.mono ?_; rintro e w3 ⟨hx, -⟩; obtain ⟨p3, rfl, hB3, hrow, hbel⟩ := hx _ _ hdec)
        rw [hd1] at hB3
        clear hU hdec hd1 hd2
        have hbel3 : Below w.heap.size w w3 := hB2.trans (hbel.mono hB2.size)
        have htb := h.tb.later (Nat.le_refl _) hbel3
        have hB3' := hB3.later (Nat.le_refl _) hbel
        go_loopw [10] (fun i wr => ∃ k nq : Nat, k ≤ vals.length ∧ i = .int .i64 k ∧ wr = w3.drewN nq) (fun i _ => vals.length - (intOf i).toNat)
        case atStart => exact ⟨0, 0, Nat.zero_le _, rfl, rfl⟩
        case round =>
          obtain ⟨k, nq, hk, rfl, rfl⟩ := hrel
          by_cases hlt : k < vals.length
          · obtain ⟨g, o, rfl, hcell⟩ := h.vc.resolve_left (by rintro rfl; simp at hlt)
            have hc := cell_later hbel3 (hcell k hlt)
            have hv := hrow.cell hlt
            have hvk : vrow vals k = .int .u64 (vals[k] : Int) := by simp [vrow, List.getD, hlt]
            rw [hvk] at hv
            have hk0 : (0 : Int) ≤ (k : Int) := by omega
            have hk1 : (k : Int) < (vals.length : Int) := by omega
            generalize hX : vals[k] = X at *
            clear hcell hvk
            go_wp2_with fail
            go_quiet (fail)
            go_wp2
            exact ⟨⟨k + 1, _, hlt, by simp, rfl⟩, by simp [intOf]; omega⟩
          · obtain rfl : k = vals.length := by omega
            have hEq := equal_same (w3.drewN nq) p3 none [] 0 0 (c2 - Mb) 0 rfl rfl hB3' htb
            go_wp2_with (go_at_call 13; refine hEq.mono ?_; rintro e wx ⟨rfl, rfl⟩)
            go_ret
            exact ⟨rfl, below_drewN hbel3 nq⟩
      | some ad =>
        have hnews : ∀ j u, (Lib.byteCells tl)[j]? = some u → wr.cell? (ad.add j) = some u := fun j u hj => by
          have hjl : j < tl.length := by
            rcases Nat.lt_or_ge j tl.length with h | h
            · exact h
            · rw [List.getElem?_eq_none (by simpa [Lib.byteCells] using h)] at hj; cases hj
          obtain ⟨g, o, hp, hcell⟩ := h.tb.resolve_left (by rintro rfl; simp at hjl)
          rw [ha] at hp
          obtain rfl := Option.some.inj hp
          have hpl : (⟨g, o, none⟩ : Addr).add j = ⟨g, o + j, none⟩ := by unfold Addr.add; split <;> simp_all
          rw [hpl, cell_later hB (hcell j hjl)]
          simp [Lib.byteCells, hjl] at hj
          rw [hj]
        go_wp2_with (at_builtin; refine wpList_append_own _ rfl _ _ 22 rfl w.heap.size 5 ti (.int .u8 0) 1 1 Ybaf.underlying22 hti hz0 hz1 hz2 rfl (by decide) _ _ _ rfl hown ad tl.length c1 (Lib.byteCells tl) rfl (by simp [Lib.byteCells]) hnews (by simp [Lib.byteCells, Value.oneCell']) (by unfold maxLen; omega) (by omega) hBz ?_)
        intro v2 w2 hown2 hgrow _
        have hB2 : Below w.heap.size w w2 := hB.grown hgrow hBz (fun j hj => (hown.lt j hj).1)
        rw [← byteCells_append] at hown2
        clear hown hgrow hnews
        subst ha
        generalize hE : encs vals ++ tl = Eb at hown2 hdec hd1 hd2
        generalize hM : (encs vals).length = Mb at hdec hd1 hd2
        obtain ⟨p2, c2, rfl, hc2, hBs2⟩ := Bs.owned hown2
        have hU := uvarints_any w2 vals.length p2 Eb c2 .nilIface hvl hBs2 hc2 (fun e => absurd e (by rw [hdec]; simp))
        clear hown2 hBs2
        go_wp2_with (go_at_call 12; refine hU.mono ?_; rintro e w3 ⟨hx, -⟩; obtain ⟨p3, rfl, hB3, hrow, hbel⟩ := hx _ _ hdec)
        rw [hd1] at hB3
        clear hU hdec hd1 hd2
        have hbel3 : Below w.heap.size w w3 := hB2.trans (hbel.mono hB2.size)
        have htb := h.tb.later (Nat.le_refl _) hbel3
        have hB3' := hB3.later (Nat.le_refl _) hbel
        go_loopw [10] (fun i wr => ∃ k nq : Nat, k ≤ vals.length ∧ i = .int .i64 k ∧ wr = w3.drewN nq) (fun i _ => vals.length - (intOf i).toNat)
        case atStart => exact ⟨0, 0, Nat.zero_le _, rfl, rfl⟩
        case round =>
          obtain ⟨k, nq, hk, rfl, rfl⟩ := hrel
          by_cases hlt : k < vals.length
          · obtain ⟨g, o, rfl, hcell⟩ := h.vc.resolve_left (by rintro rfl; simp at hlt)
            have hc := cell_later hbel3 (hcell k hlt)
            have hv := hrow.cell hlt
            have hvk : vrow vals k = .int .u64 (vals[k] : Int) := by simp [vrow, List.getD, hlt]
            rw [hvk] at hv
            have hk0 : (0 : Int) ≤ (k : Int) := by omega
            have hk1 : (k : Int) < (vals.length : Int) := by omega
            generalize hX : vals[k] = X at *
            clear hcell hvk
            go_wp2_with fail
            go_quiet (fail)
            go_wp2
            exact ⟨⟨k + 1, _, hlt, by simp, rfl⟩, by simp [intOf]; omega⟩
          · obtain rfl : k = vals.length := by omega
            have hEq := equal_same (w3.drewN nq) p3 (some ad) tl tl.length tl.length (c2 - Mb) c1 rfl rfl hB3' htb
            go_wp2_with (go_at_call 13; refine hEq.mono ?_; rintro e wx ⟨rfl, rfl⟩)
            go_ret
            exact ⟨rfl, below_drewN hbel3 nq⟩

set_option maxHeartbeats 1000000 in
theorem law_long (w : World) (a0 a1 : Option Addr) (n t c0 c1 : Nat) (h : 1024 < n ∨ 1024 < t) :
    Calls Ybaf.prog 6 #[.slice a0 n c0, .slice a1 t c1] w fun e w' => e = .returned (.bool true) ∧ Below w.heap.size w w' := by
  by_cases hn : 1024 < n
  · have hn' : (1024 : Int) < (n : Int) := by omega
    go_enter Ybaf.func6, Ybaf.ntmps6
    go_wp2
    go_ret
    exact ⟨rfl, Below.refl _ _⟩
  · have hn' : ¬ (1024 : Int) < (n : Int) := by omega
    have ht' : (1024 : Int) < (t : Int) := by omega
    go_enter Ybaf.func6, Ybaf.ntmps6
    go_wp2
    go_ret
    exact ⟨rfl, Below.refl _ _⟩
end Bx
end Go.Proofs.YbulkcctkFmt
