import Derived.Test.YbulkcctkFmtB2
import Derived.Laws.Rows
namespace Go.Proofs.YbulkcctkFmt
open Go.RowKit
namespace Bx

def vrow (vs : List Nat) (j : Nat) : Value := .int .u64 ((vs.getD j 0 : Nat) : Int)
theorem vrow_hit (vs : List Nat) (v i : Nat) (h : vs.length = i) (j : Nat) : (if j = i then Value.int .u64 (v : Int) else vrow vs j) = vrow (vs ++ [v]) j := by
  subst h
  unfold vrow
  by_cases e : j = vs.length
  · subst e; simp
  · rw [if_neg e]
    by_cases h : j < vs.length
    · simp [List.getD, List.getElem?_append_left h]
    · have h1 : vs[j]? = none := List.getElem?_eq_none (by omega)
      have h2 : (vs ++ [v])[j]? = none := List.getElem?_eq_none (by simp; omega)
      simp [List.getD, h1, h2]

/-- what decodeUvarints leaves -/
def Dpost (w0 : World) (n : Nat) (l : List UInt8) (c : Nat) (E : Value) (e : Ending) (w' : World) : Prop :=
  (∀ vs m, decs l n = some (vs, m) → ∃ p', e = .returned (.tuple #[.slice p' (l.length - m : Nat) (c - m : Nat), .nilIface]) ∧ Bs w0 p' (l.drop m) ∧ w'.rowIs w0.heap.size 34 n (vrow vs) ∧ Below w0.heap.size w0 w') ∧
  (decs l n = none → ∃ eb txt, e = .returned (.tuple #[.slice none 0 0, .iface 57 (.pointer (some ⟨eb, 0, none⟩))]) ∧ w'.heap[eb]? = some (.cells #[.string txt, E] 100 (0, 0)) ∧ w0.heap.size < eb ∧ Below w0.heap.size w0 w')

/-- what a failing uvarint leaves -/
def Ubad (B : Nat) (w : World) (E : Value) (e : Ending) (w' : World) : Prop :=
  ∃ eb txt, e = .returned (.tuple #[.int .u64 0, .slice none 0 0, .iface 57 (.pointer (some ⟨eb, 0, none⟩))]) ∧ w'.heap[eb]? = some (.cells #[.string txt, E] 100 (0, 0)) ∧ B < eb ∧ Below w.heap.size w w'

theorem Dpost.ok {w0 w' : World} {n c m : Nat} {l : List UInt8} {E : Value} {vs : List Nat} {p' : Option Addr} (hd : decs l n = some (vs, m)) (h1 : Bs w0 p' (l.drop m)) (h2 : w'.rowIs w0.heap.size 34 n (vrow vs)) (h3 : Below w0.heap.size w0 w') :
    Dpost w0 n l c E (.returned (.tuple #[.slice p' (l.length - m : Nat) (c - m : Nat), .nilIface])) w' := by
  refine ⟨fun vs' m' h => ?_, fun h => by rw [hd] at h; cases h⟩
  rw [hd] at h
  simp only [Option.some.injEq, Prod.mk.injEq] at h
  obtain ⟨rfl, rfl⟩ := h
  exact ⟨p', rfl, h1, h2, h3⟩

theorem Dpost.bad {w0 w' : World} {n c eb : Nat} {l : List UInt8} {E : Value} {txt : ByteArray} (hd : decs l n = none) (h1 : w'.heap[eb]? = some (.cells #[.string txt, E] 100 (0, 0))) (h2 : w0.heap.size < eb) (h3 : Below w0.heap.size w0 w') :
    Dpost w0 n l c E (.returned (.tuple #[.slice none 0 0, .iface 57 (.pointer (some ⟨eb, 0, none⟩))])) w' :=
  ⟨fun vs m h => (by rw [hd] at h; cases h), fun _ => ⟨eb, txt, rfl, h1, h2, h3⟩⟩

/-- decodeUvarints between two rounds -/
def Drel (w0 : World) (n : Nat) (l : List UInt8) (c : Nat) (b ct : Value) (wr : World) : Prop :=
  ∃ (i : Nat) (p' : Option Addr) (vs : List Nat) (m : Nat), i ≤ n ∧ ct = .int .i64 i ∧ decs l i = some (vs, m) ∧ b = .slice p' (l.length - m : Nat) (c - m : Nat) ∧ Bs w0 p' (l.drop m) ∧ wr.rowIs w0.heap.size 34 n (vrow vs) ∧ Below w0.heap.size w0 wr

theorem Drel.next0 {w0 wr : World} {n c i m v k : Nat} {l L : List UInt8} {vs : List Nat} {p' : Option Addr} {x y : Nat} (hi : i < n) (hd : decs l (i + 1) = some (vs ++ [v], m + k)) (hvl : vs.length = i) (hL : l.drop m = L) (hx : x = L.length - k) (hy : y = c - m - k)
    (hB : Bs w0 p' (L.drop k)) (hvs : wr.rowIs w0.heap.size 34 n (vrow vs)) (hBl : Below w0.heap.size w0 wr) :
    Drel w0 n l c (.slice p' x y) (.int .i64 ((i : Int) + 1)) (wr.setCell ⟨w0.heap.size, i, none⟩ (.int .u64 v)) := by
  refine ⟨i + 1, p', vs ++ [v], m + k, hi, by simp, hd, ?_, ?_, ?_, ?_⟩
  · have hl : L.length = l.length - m := by rw [← hL, List.length_drop]
    rw [show l.length - (m + k) = x by omega, show c - (m + k) = y by omega]
  · rw [← List.drop_drop, hL]; exact hB
  · exact (hvs.set i _).congr (fun j _ => vrow_hit vs v i hvl j)
  · exact hBl.setCell (p := ⟨w0.heap.size, i, none⟩) (Nat.le_refl _) _
theorem Drel.drew {w0 wr : World} {n c : Nat} {l : List UInt8} {b ct : Value} (h : Drel w0 n l c b ct wr) : Drel w0 n l c b ct wr.drew := by
  obtain ⟨i, p', vs, m, h1, h2, h3, h4, h5, h6, h7⟩ := h
  exact ⟨i, p', vs, m, h1, h2, h3, h4, h5, h6.drew, h7.drew⟩

theorem step_nil : step [] = none := rfl
theorem step_cut (b : UInt8) (h : ¬ b.toNat < 128) : step [b] = none := by
  have : Lib.uvarintDec [b] = (0, 0) := by simp [Lib.uvarintDec, Lib.uvarintFrom, h]
  simp [step, this]

set_option maxHeartbeats 4000000 in
set_option maxRecDepth 100000 in
theorem decode_any (w0 w : World) (n : Nat) (p : Option Addr) (l : List UInt8) (c : Nat) (E : Value) (hn : n ≤ 1024) (hvs : w.rowIs w0.heap.size 34 n (vrow [])) (hBl : Below w0.heap.size w0 w)
    (hBs : Bs w0 p l) (hc : l.length ≤ c)
    (hbad : decs l n = none → ∀ (w' : World) (p' : Option Addr) (l' : List UInt8) (c' : Nat), Below w0.heap.size w0 w' → w0.heap.size < w'.heap.size → step l' = none → Bs w' p' l' → l'.length ≤ c' → Calls Ybaf.prog 23 #[.slice p' l'.length c'] w' (Ubad w0.heap.size w' E)) :
    Calls Ybaf.prog 20 #[.slice (some ⟨w0.heap.size, 0, none⟩) n n, .slice p l.length c] w (Dpost w0 n l c E) := by
  go_enter Ybaf.func20, Ybaf.ntmps20
  go_wp2
  go_loopw [1, 10] (fun b ct wr => Drel w0 n l c b ct wr) (fun _ ct _ => n - (intOf ct).toNat)
  case atStart => exact ⟨0, p, [], 0, Nat.zero_le _, rfl, rfl, rfl, hBs, hvs, hBl⟩
  case round =>
    clear hvs hBl hBs
    obtain ⟨i, p, vs, m, hi, rfl, hd, rfl, hBs, hvs, hBl⟩ := hrel
    obtain ⟨hvl, hml, hvb⟩ := decs_size hd
    by_cases hlt : i < n
    · have hBr := hBs.later (Nat.le_refl _) hBl
      have hLl : l.length - m = (l.drop m).length := by simp
      have hcc : (l.drop m).length ≤ c - m := by simp; omega
      have hnext : ∀ v k, step (l.drop m) = some (v, k) → decs l (i + 1) = some (vs ++ [v], m + k) := fun v k h => decs_succ hd h
      have hstop : step (l.drop m) = none → decs l n = none := fun h => by
        have := decs_none (decs_stop hd h) (n - (i + 1))
        rwa [show i + 1 + (n - (i + 1)) = n by omega] at this
      have hdrop : ∀ k, l.drop (m + k) = (l.drop m).drop k := fun k => by rw [List.drop_drop]
      rw [hLl]
      generalize hL : l.drop m = L at *
      generalize hC : c - m = C at *
      have hvc := hvs.cell hlt
      have hvf := hvs.frozen i
      have hi0 : (0 : Int) ≤ (i : Int) := by omega
      have hi1 : (i : Int) < (n : Int) := by omega
      by_cases hA : ∃ b0 r, L = b0 :: r ∧ b0.toNat < 128
      · obtain ⟨b0, r, rfl, hb0⟩ := hA
        obtain ⟨g, o, rfl, hcell⟩ := hBs.resolve_left (by simp)
        have hgl : g < w0.heap.size := World.block_lt_of_cell? w0 _ (hcell 0 (by simp))
        have hc0 : wr.cell? ⟨g, o, none⟩ = some (.int .u8 b0.toNat) := cell_later hBl (hcell 0 (by simp))
        have hB1 : ¬ g = w0.heap.size := by omega
        have hB2 : ¬ w0.heap.size = g := by omega
        have hb0' : (b0.toNat : Int) < 128 := by omega
        have hlen : (b0 :: r).length = r.length + 1 := rfl
        rw [hlen] at hcc ⊢
        have hC1 : 1 ≤ C := by omega
        have hC1' : (1 : Int) ≤ (C : Int) := by omega
        have hr0 : (0 : Int) ≤ (r.length : Int) := by omega
        have hlC : (r.length : Int) + 1 ≤ (C : Int) := by omega
        have hwrap : IntKind.u64.wrap (b0.toNat : Int) = (b0.toNat : Int) := by rw [IntKind.wrap_u64]; omega
        have hn1 := hnext _ _ (step_one b0 r hb0)
        have hBn : ∀ k, Bs w0 (some ⟨g, o + k, none⟩) ((b0 :: r).drop k) := fun k => Bs.drop hcell
        clear hnext hstop hcell hBs hBr
        by_cases hCk : C = 1
        · subst hCk
          have hr9 : r = [] := List.eq_nil_of_length_eq_zero (by omega)
          subst hr9
          go_wp2_with fail
          go_region_held3 (fun w' => w'.cell? ⟨g, o, none⟩ = some (.int .u8 b0.toNat)) (go_keep) (fail)
          go_wp2
          all_goals exact ⟨(Drel.next0 hlt hn1 hvl hL (by simp) (by omega) (Bs.nil _ _ rfl) hvs hBl).drew, by simp [intOf]; omega⟩
        · have hCk2 : ¬ C ≤ 1 := by omega
          have hCk3 : 1 < C := by omega
          have hCk4 : (1 : Int) < (C : Int) := by omega
          have hCk5 : (1 : Int) ≤ (r.length : Int) + 1 := by omega
          go_wp2_with fail
          go_region_held3 (fun w' => w'.cell? ⟨g, o, none⟩ = some (.int .u8 b0.toNat)) (go_keep) (fail)
          go_wp2
          all_goals exact ⟨(Drel.next0 hlt hn1 hvl hL (by simp) (by omega) (hBn 1) hvs hBl).drew, by simp [intOf]; omega⟩
      · by_cases hA2 : ∃ b0 b1 r, L = b0 :: b1 :: r ∧ ¬ b0.toNat < 128 ∧ b1.toNat < 128
        · obtain ⟨b0, b1, r, rfl, hb0, hb1⟩ := hA2
          obtain ⟨g, o, rfl, hcell⟩ := hBs.resolve_left (by simp)
          have hgl : g < w0.heap.size := World.block_lt_of_cell? w0 _ (hcell 0 (by simp))
          have hc0 : wr.cell? ⟨g, o, none⟩ = some (.int .u8 b0.toNat) := cell_later hBl (hcell 0 (by simp))
          have hc1 : wr.cell? ⟨g, o + 1, none⟩ = some (.int .u8 b1.toNat) := cell_later hBl (hcell 1 (by simp))
          have hB1 : ¬ g = w0.heap.size := by omega
          have hB2 : ¬ w0.heap.size = g := by omega
          have hb256 : b0.toNat < 256 := b0.toNat_lt
          have hb0' : ¬ (b0.toNat : Int) < 128 := by omega
          have hb1' : (b1.toNat : Int) < 128 := by omega
          have hlen : (b0 :: b1 :: r).length = r.length + 2 := rfl
          rw [hlen] at hcc ⊢
          have hC1 : 2 ≤ C := by omega
          have hC1' : (2 : Int) ≤ (C : Int) := by omega
          have hr0 : (0 : Int) ≤ (r.length : Int) := by omega
          have hlC : (r.length : Int) + 2 ≤ (C : Int) := by omega
          have HBITS : Hid (bits .or .u64 (IntKind.u64.wrap (bits .and .u8 (b0.toNat : Int) 127)) ((b1.toNat : Int) * 128) = ((b0.toNat % 128 + b1.toNat * 128 : Nat) : Int)) := by
            show bits .or .u64 (IntKind.u64.wrap (bits .and .u8 (b0.toNat : Int) 127)) ((b1.toNat : Int) * 128) = ((b0.toNat % 128 + b1.toNat * 128 : Nat) : Int)
            simp (disch := omega) only [u8_and127, u64_wrap_id, u64_orv7]
            omega
          have hn1 := hnext _ _ (step_two b0 b1 r hb0 hb1)
          have hBn : ∀ k, Bs w0 (some ⟨g, o + k, none⟩) ((b0 :: b1 :: r).drop k) := fun k => Bs.drop hcell
          clear hnext hstop hcell hBs hBr hA
          by_cases hCk : C = 2
          · subst hCk
            have hr9 : r = [] := List.eq_nil_of_length_eq_zero (by omega)
            subst hr9
            go_wp2_with fail
            go_region_held3 (fun w' => w'.cell? ⟨g, o, none⟩ = some (.int .u8 b0.toNat) ∧ w'.cell? ⟨g, o + 1, none⟩ = some (.int .u8 b1.toNat)) (go_keep) (fail)
            go_wp2
            all_goals (rw [HBITS.out]; exact ⟨(Drel.next0 hlt hn1 hvl hL (by simp) (by omega) (Bs.nil _ _ rfl) hvs hBl).drew, by simp [intOf]; omega⟩)
          · have hCk2 : ¬ C ≤ 2 := by omega
            have hCk3 : 2 < C := by omega
            have hCk4 : (2 : Int) < (C : Int) := by omega
            have hCk5 : (2 : Int) ≤ (r.length : Int) + 2 := by omega
            go_wp2_with fail
            go_region_held3 (fun w' => w'.cell? ⟨g, o, none⟩ = some (.int .u8 b0.toNat) ∧ w'.cell? ⟨g, o + 1, none⟩ = some (.int .u8 b1.toNat)) (go_keep) (fail)
            go_wp2
            all_goals (rw [HBITS.out]; exact ⟨(Drel.next0 hlt hn1 hvl hL (by simp) (by omega) (hBn 2) hvs hBl).drew, by simp [intOf]; omega⟩)
        · have hvl0 := hvs.lt
          rcases L with _ | ⟨b0, _ | ⟨b1, r⟩⟩
          · have hs := step_nil
            have hcall := hbad (hstop hs) wr p [] C hBl hvl0 hs hBr hcc
            clear hnext hA hA2 hBs hBr hbad
            simp only [List.length_nil] at hcc hcall ⊢
            go_wp2_with (go_at_call 23; refine hcall.mono ?_; rintro e wx ⟨eb, txt, rfl, he, hle, hbx⟩; have y1 := (hvs.of_block (hbx.block _ hvs.lt)).cell hlt; have y2 := (hvs.of_block (hbx.block _ hvs.lt)).frozen i)
            go_ret2
            exact Dpost.bad (hstop hs) ((heap_setCell_other _ ⟨w0.heap.size, i, none⟩ _ _ (Nat.ne_of_gt hle)).trans he) hle ((hBl.trans (hbx.mono hBl.size)).setCell (p := ⟨w0.heap.size, i, none⟩) (Nat.le_refl _) _)
          · have hb0 : ¬ b0.toNat < 128 := fun h => hA ⟨b0, [], rfl, h⟩
            have hs := step_cut b0 hb0
            obtain ⟨g, o, rfl, hcell⟩ := hBs.resolve_left (by simp)
            have hc0 : wr.cell? ⟨g, o, none⟩ = some (.int .u8 b0.toNat) := cell_later hBl (hcell 0 (by simp))
            have hcall := hbad (hstop hs) wr _ [b0] C hBl hvl0 hs hBr hcc
            have hb0' : ¬ (b0.toNat : Int) < 128 := by omega
            clear hnext hA hA2 hBr hbad hcell
            simp only [List.length_singleton] at hcc hcall ⊢
            go_wp2_with (go_at_call 23; refine hcall.mono ?_; rintro e wx ⟨eb, txt, rfl, he, hle, hbx⟩; have y1 := (hvs.of_block (hbx.block _ hvs.lt)).cell hlt; have y2 := (hvs.of_block (hbx.block _ hvs.lt)).frozen i)
            go_ret2
            exact Dpost.bad (hstop hs) ((heap_setCell_other _ ⟨w0.heap.size, i, none⟩ _ _ (Nat.ne_of_gt hle)).trans he) hle ((hBl.trans (hbx.mono hBl.size)).setCell (p := ⟨w0.heap.size, i, none⟩) (Nat.le_refl _) _)
          · have hb0 : ¬ b0.toNat < 128 := fun h => hA ⟨b0, b1 :: r, rfl, h⟩
            have hb1 : ¬ b1.toNat < 128 := fun h => hA2 ⟨b0, b1, r, rfl, hb0, h⟩
            obtain ⟨g, o, rfl, hcell⟩ := hBs.resolve_left (by simp)
            have hc0 : wr.cell? ⟨g, o, none⟩ = some (.int .u8 b0.toNat) := cell_later hBl (hcell 0 (by simp))
            have hc1 : wr.cell? ⟨g, o + 1, none⟩ = some (.int .u8 b1.toNat) := cell_later hBl (hcell 1 (by simp))
            have hb0' : ¬ (b0.toNat : Int) < 128 := by omega
            have hb1' : ¬ (b1.toNat : Int) < 128 := by omega
            have hr0 : (0 : Int) ≤ (r.length : Int) := by omega
            have hlen : (b0 :: b1 :: r).length = r.length + 2 := rfl
            cases hs : step (b0 :: b1 :: r) with
            | none =>
              have hcall := hbad (hstop hs) wr _ (b0 :: b1 :: r) C hBl hvl0 hs hBr hcc
              clear hnext hA hA2 hBr hbad hcell
              rw [hlen] at hcc hcall ⊢
              go_wp2_with (go_at_call 23; refine hcall.mono ?_; rintro e wx ⟨eb, txt, rfl, he, hle, hbx⟩; have y1 := (hvs.of_block (hbx.block _ hvs.lt)).cell hlt; have y2 := (hvs.of_block (hbx.block _ hvs.lt)).frozen i)
              go_ret2
              exact Dpost.bad (hstop hs) ((heap_setCell_other _ ⟨w0.heap.size, i, none⟩ _ _ (Nat.ne_of_gt hle)).trans he) hle ((hBl.trans (hbx.mono hBl.size)).setCell (p := ⟨w0.heap.size, i, none⟩) (Nat.le_refl _) _)
            | some x =>
              obtain ⟨v, k⟩ := x
              have hcall := uvarint_ok wr _ (b0 :: b1 :: r) C v k hBr hcc hs
              have hn1 := hnext v k hs
              have hk := step_size hs
              clear hnext hA hA2 hBr hbad hcell hstop
              rw [hlen] at hcc hcall ⊢
              go_wp2_with (go_at_call 23; refine hcall.mono ?_; rintro e wx ⟨p', nq, rfl, hB', rfl⟩)
              exact ⟨Drel.next0 hlt hn1 hvl hL (by simp) (by omega) (hB' _ hBs) (wr := wr.drewN nq) hvs (below_drewN hBl nq), by simp [intOf]; omega⟩
    · obtain rfl : i = n := by omega
      go_wp2
      go_ret2
      exact Dpost.ok hd hBs hvs hBl
end Bx
end Go.Proofs.YbulkcctkFmt
