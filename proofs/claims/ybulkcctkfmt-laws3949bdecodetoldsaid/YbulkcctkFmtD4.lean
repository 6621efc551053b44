import Derived.Test.YbulkcctkFmtB5
import Derived.Test.YbulkcctkFmtD2
import Derived.Test.YbulkcctkFmtD3
namespace Go.Proofs.YbulkcctkFmt
open Go.RowKit Go.Extern.Stop Go.Stop Go.Extern
namespace Bx

/-- what the law is told -/
structure Din (w : World) (p : Option Addr) (l : List UInt8) (c : Nat) (F : Interp) (a : Addr) (s : ByteArray) : Prop where
  ln : l.length ≤ 4096
  sh : (∃ g o, p = some ⟨g, o, none⟩ ∧ ∀ j (hj : j < l.length), w.cell? ⟨g, o + j, none⟩ = some (.int .u8 (l[j]).toNat)) ∨ (l = [] ∧ c = 0)
  lc : l.length ≤ c
  hg : w.cell? ⟨1, 0, none⟩ = some (.iface 71 (.pointer (some a)))
  ht : w.cell? a = some (.string s)
  hF : F.answers w.tape

theorem Din.bs {w : World} {p : Option Addr} {l : List UInt8} {c : Nat} {F : Interp} {a : Addr} {s : ByteArray} (h : Din w p l c F a s) : Bs w p l := by
  rcases h.sh with ⟨g, o, hp, hc⟩ | ⟨hl, _⟩
  · exact .inr ⟨g, o, hp, hc⟩
  · exact .inl hl

def u64s (vs : List Nat) : List Value := vs.map fun v => .int .u64 (v : Nat)

/-- the first loop between two rounds -/
def Lw (w : World) (n : Nat) (l : List UInt8) (v pos ok i : Value) (wr : World) : Prop :=
  ∃ (k m : Nat) (vs : List Nat), k ≤ n ∧ i = .int .i64 (k : Nat) ∧ ok = .bool true ∧ pos = .int .i64 (m : Nat) ∧ decs l k = some (vs, m) ∧ wr.ownsRow w.heap.size 34 1 v k (u64s vs) ∧ Below w.heap.size w wr

theorem mk33 (n : Nat) (hn : n ≤ 255) (w : World) : (Instr.makeSlice 33 (.int .i64 0) (.int .i64 (n : Int))).run Ybaf.prog w = .ok (.slice (some ⟨w.heap.size, 0, none⟩) 0 n) (w.alloc (.cells (madeCells #[.int .u64 0] n) 34)) := by
  obtain ⟨ti, h1, h2⟩ := Option.map_eq_some_iff.1 info34
  simp only [Prod.mk.injEq] at h2
  obtain ⟨hz0, hz1, hz2⟩ := h2
  have hr := run_make (P := Ybaf.prog) w 33 34 ti (.int .u64 0) Ybaf.underlying33 h1 hz0 .i64 .i64 0 n (by omega) (by omega) (by rw [hz2]; omega) (by omega)
  simp only [Int.toNat_natCast, hz1, Nat.mul_one] at hr
  exact hr

/-- the slice 'b[m:]': some slice of the bytes behind m -/
theorem cut_any (p : Option Addr) (l : List UInt8) (c m : Nat) (hml : m ≤ l.length) (hlc : l.length ≤ c) :
    ∃ p' : Option Addr, (∀ w', (Instr.slice 22 (.slice p l.length c) (some (.int .i64 (m : Int))) none none).run Ybaf.prog w' = .ok (.slice p' (l.length - m) (c - m)) w') ∧ ∀ w2, Bs w2 p l → Bs w2 p' (l.drop m) := by
  refine ⟨if c = m then p else p.map (·.add (m * 1)), fun w' => ?_, fun w2 h => ?_⟩
  · have h1 := run_slice_l (P := Ybaf.prog) (w := w') 22 p l.length c Ybaf.underlying22 .i64 (m : Int) (by omega) (by omega)
    rw [h1]
    have hz : (sizeOf (Ybaf.prog.elem 22)).run Ybaf.prog w' = .ok 1 w' := by kernel_rfl
    rw [hz]
    simp [Result.andThen, sliced]
  · by_cases hcm : c = m
    · exact .inl (List.drop_eq_nil_of_le (by omega))
    · rw [if_neg hcm]
      rcases h with rfl | ⟨g, o, rfl, hc⟩
      · exact .inl (by simp)
      · have hpl : (⟨g, o, none⟩ : Addr).add (m * 1) = ⟨g, o + m, none⟩ := by rw [Nat.mul_one]; unfold Addr.add; split <;> simp_all
        rw [Option.map_some, hpl]
        exact Bs.drop hc

theorem one_new (w : World) (x : Value) (t : TypeId) : ∀ j u, [x][j]? = some u → (w.alloc (.cells #[x] t)).cell? ((⟨w.heap.size, 0, none⟩ : Addr).add j) = some u := fun j u hj => by
  cases j with
  | zero =>
    simp at hj
    subst hj
    have : (⟨w.heap.size, 0, none⟩ : Addr).add 0 = ⟨w.heap.size, 0, none⟩ := by simp [Addr.add]
    rw [this, cell_of_row _ _ _ _ _ _ (heap_alloc_new w _)]
    rfl
  | succ j => simp at hj

theorem u64s_snoc (vs : List Nat) (v : Nat) : u64s vs ++ [.int .u64 (v : Nat)] = u64s (vs ++ [v]) := by simp [u64s]

theorem nil33 (w : World) : (binOp .eql 33 (.slice none 0 0) (.slice none 0 0)).run Ybaf.prog w = .ok (.bool true) w := by kernel_rfl
theorem nil22 (w : World) : (binOp .eql 22 (.slice none 0 0) (.slice none 0 0)).run Ybaf.prog w = .ok (.bool true) w := by kernel_rfl

/-- the row that the law has gathered, read -/
theorem own_read {w : World} {B : Nat} {v : Value} {n : Nat} {vs : List Nat} (h : w.ownsRow B 34 1 v n (u64s vs)) : ∃ pv cv, v = .slice pv n cv ∧ (n = 0 ∨ ∃ g, pv = some ⟨g, 0, none⟩ ∧ n ≤ cv ∧ ∀ j (hj : j < vs.length), w.cell? ⟨g, j, none⟩ = some (.int .u64 (vs[j] : Nat))) := by
  obtain ⟨hl, h⟩ := h
  have hl' : vs.length = n := by simpa [u64s] using hl
  rcases h with ⟨rfl, h0⟩ | ⟨g, cap, cur, rfl, hb, hh, hn, hcap, hcur, ht⟩
  · subst h0
    exact ⟨none, 0, rfl, .inl rfl⟩
  · refine ⟨_, cap, rfl, .inr ⟨g, rfl, hn, fun j hj => ?_⟩⟩
    rw [cell_of_row w g _ _ _ _ hh]
    have h1 : (cur.toList.take (n * 1))[j]? = (u64s vs)[j]? := by rw [ht]
    rw [List.getElem?_take, if_pos (by omega)] at h1
    rw [← Array.getElem?_toList, h1]
    simp [u64s, hj]

set_option maxHeartbeats 4000000 in
set_option maxRecDepth 100000 in
theorem law_dec (w : World) (n : Nat) (hn : n ≤ 255) (p : Option Addr) (l : List UInt8) (c : Nat) (F : Interp) (a : Addr) (s : ByteArray) (h : Din w p l c F a s) :
    Calls Ybaf.prog 5 #[.slice p l.length c, .int .u8 n] w fun e w' => e = .returned (.bool true) ∧ Below w.heap.size w w' := by
  have hln := h.ln
  have hlc := h.lc
  have hln' : ¬ ((4096 : Int) < (l.length : Int)) := by omega
  obtain ⟨ti, hti, hz0, hz1, hz2⟩ : ∃ ti, Ybaf.prog.info? 34 = some ti ∧ ti.zero = some (.int .u64 0) ∧ ti.size = 1 ∧ ti.bytes = 8 := by
    obtain ⟨ti, h1, h2⟩ := Option.map_eq_some_iff.1 info34
    simp only [Prod.mk.injEq] at h2
    exact ⟨ti, h1, h2.1, h2.2.1, h2.2.2⟩
  have hmk := mk33 n hn
  have hwn : IntKind.i64.wrap (n : Int) = (n : Int) := by rw [IntKind.wrap_i64]; omega
  have hst : (w.alloc (.cells (madeCells #[.int .u64 0] n) 34)).ownsRow w.heap.size 34 1 (.slice (some ⟨w.heap.size, 0, none⟩) 0 n) 0 [] := World.ownsRow_made w _ n (Nat.le_refl _) (by unfold maxLen; omega) (by rw [size_madeCells]; simp)
  go_enter Ybaf.func5, Ybaf.ntmps5
  go_wp2_with fail
  clear hmk
  go_loopw [6, 7, 8, 9] (fun v pos ok i wr => Lw w n l v pos ok i wr) (fun _ _ _ i _ => n - (intOf i).toNat)
  case atStart => exact ⟨0, 0, [], Nat.zero_le _, rfl, rfl, rfl, rfl, hst, (Below.refl _ w).alloc (Nat.le_refl _) _⟩
  case round =>
    clear hst
    obtain ⟨k, m, vs, hk, rfl, rfl, rfl, hd, hown, hB⟩ := hrel
    obtain ⟨hvl, hml, hvb⟩ := decs_size hd
    obtain ⟨p', hsl, hcut⟩ := cut_any p l c m hml hlc
    have hBr := hcut _ (h.bs.later (Nat.le_refl _) hB)
    have hlen : (l.drop m).length = l.length - m := by simp
    by_cases hlt : k < n
    · have hlt' : (k : Int) < (n : Int) := by omega
      have hz := zdec_any wr p' (l.drop m) (c - m) hBr (by omega)
      rw [hlen] at hz
      cases hs : step (l.drop m) with
      | some x =>
        obtain ⟨v, sz⟩ := x
        have hzo : zout (l.drop m) = .tuple #[.int .u64 (v : Nat), .int .i64 (sz : Nat), .bool true] := by simp [zout, hs]
        rw [hzo] at hz
        have hn1 := decs_succ hd hs
        have hsz := step_size hs
        have hwr : IntKind.i64.wrap ((m : Int) + (sz : Int)) = (m : Int) + (sz : Int) := by rw [IntKind.wrap_i64]; omega
        clear hs hzo hlen hcut hBr
        go_wp2_with (first | (go_at_call 11; refine hz.mono ?_; rintro e wx ⟨rfl, rfl⟩) | (at_builtin; refine wpList_append_own _ rfl _ _ 33 rfl w.heap.size 34 ti (.int .u64 0) 1 8 Ybaf.underlying33 hti hz0 hz1 hz2 rfl (by decide) _ _ _ rfl (hown.alloc _) ⟨wx.heap.size, 0, none⟩ 1 1 [.int .u64 (v : Nat)] rfl rfl (one_new _ _ _) (by simp [Value.oneCell']) (by unfold maxLen; omega) (by omega) (by simp; exact Nat.le_succ_of_le hB.size) ?_; intro v2 w2 hown2 hgrow _))
        rw [u64s_snoc] at hown2
        exact ⟨⟨k + 1, m + sz, vs ++ [v], hlt, by simp, rfl, by simp, hn1, hown2, (hB.alloc hB.size _).grown hgrow (by simp; exact Nat.le_succ_of_le hB.size) (fun j hj => (hown.lt j hj).1)⟩, by simp [intOf]; omega⟩
      | none =>
        have hzo : zout (l.drop m) = .tuple #[.int .u64 0, .int .i64 0, .bool false] := by simp [zout, hs]
        rw [hzo] at hz
        have hdn : decs l n = none := by
          have := decs_none (decs_stop hd hs) (n - (k + 1))
          rwa [show k + 1 + (n - (k + 1)) = n by omega] at this
        have hU := uvarints_any wr n p l c (.iface 71 (.pointer (some a))) (by omega) (h.bs.later (Nat.le_refl _) hB) hlc
          (fun _ w' p' l' c' hBw hszw hst hBs' _ => uvarint_bad F a s wr.heap.size w' p' l' c' hszw (by rw [hBw.tape, hB.tape]; exact h.hF) (cell_later hBw (cell_later hB h.hg)) (cell_later hBw (cell_later hB h.ht)) hst hBs')
        have hq1 := nil33
        have hq2 := nil22
        clear hs hzo hlen hcut hBr
        go_wp2_with (first | (go_at_call 11; refine hz.mono ?_; rintro e wx ⟨rfl, rfl⟩) |
          (go_at_call 12; refine hU.mono ?_; rintro e w2 ⟨-, hx⟩; obtain ⟨eb, txt, rfl, h1, h2, h3⟩ := hx hdn; have k1 := cell_later h3 (cell_later hB h.hg); have k2 : w2.cell? ⟨eb, 0 + 1, none⟩ = some (.iface 71 (.pointer (some a))) := by (rw [cell_of_row _ _ _ _ _ _ h1]; rfl)) |
          (go_at_call 9; refine (is_wrap_same eb 0 a w2 k2).mono ?_; rintro e w4 ⟨rfl, rfl⟩))
        go_ret
        exact ⟨rfl, hB.trans (h3.mono hB.size)⟩
    · obtain rfl : k = n := by omega
      have hU := uvarints_any wr k p l c .nilIface (by omega) (h.bs.later (Nat.le_refl _) hB) hlc (fun e => absurd e (by rw [hd]; simp))
      obtain ⟨pv, cv, rfl, hv⟩ := own_read hown
      have hsub : IntKind.i64.wrap ((l.length : Int) - (m : Int)) = ((l.length - m : Nat) : Int) := by rw [IntKind.wrap_i64]; omega
      clear hown
      go_wp2_with (go_at_call 12; refine hU.mono ?_; rintro e w2 ⟨hx, -⟩; obtain ⟨p3, rfl, hB3, hrow, hbel⟩ := hx _ _ hd)
      have hbel3 : Below w.heap.size w w2 := hB.trans (hbel.mono hB.size)
      have hB3' := hB3.later (Nat.le_refl _) hbel
      have hBr' := hBr.later (Nat.le_refl _) hbel
      clear hU hx
      go_loopw [16] (fun i wz => ∃ q nq : Nat, q ≤ k ∧ i = .int .i64 q ∧ wz = w2.drewN nq) (fun i _ => k - (intOf i).toNat)
      case atStart => exact ⟨0, 0, Nat.zero_le _, rfl, rfl⟩
      case round =>
        obtain ⟨q, nq, hq, rfl, rfl⟩ := hrel
        by_cases hlt : q < k
        · obtain ⟨g, rfl, hcv, hcell⟩ := hv.resolve_left (by omega)
          have hc := cell_later hbel (hcell q (by omega))
          have hvv := hrow.cell hlt
          have hvk : vrow vs q = .int .u64 (vs[q]'(by omega) : Nat) := by simp [vrow, List.getD, (by omega : q < vs.length)]
          rw [hvk] at hvv
          have hk0 : (0 : Int) ≤ (q : Int) := by omega
          have hk1 : (q : Int) < (k : Int) := by omega
          generalize hX : vs[q]'(by omega) = X at *
          clear hcell hvk
          go_wp2_with fail
          go_quiet (fail)
          go_wp2
          exact ⟨⟨q + 1, _, hlt, by simp, rfl⟩, by simp [intOf]; omega⟩
        · obtain rfl : q = k := by omega
          have hEq := equal_same (w2.drewN nq) p3 p' (l.drop m) (l.length - m) (l.length - m) (c - m) (c - m) hlen hlen hB3' hBr'
          go_wp2_with (go_at_call 13; refine hEq.mono ?_; rintro e wx ⟨rfl, rfl⟩)
          go_ret
          exact ⟨rfl, below_drewN hbel3 nq⟩

set_option maxHeartbeats 1000000 in
theorem law_dec_long (w : World) (n : Int) (p : Option Addr) (l c : Nat) (h : 4096 < l) :
    Calls Ybaf.prog 5 #[.slice p l c, .int .u8 n] w fun e w' => e = .returned (.bool true) ∧ Below w.heap.size w w' := by
  have hn' : (4096 : Int) < (l : Int) := by omega
  go_enter Ybaf.func5, Ybaf.ntmps5
  go_wp2
  go_ret
  exact ⟨rfl, Below.refl _ _⟩
end Bx
end Go.Proofs.YbulkcctkFmt
