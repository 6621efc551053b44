import Derived.Test.YbulkccooWeights
import Derived.Test.YbulkccooEntries
import Derived.Test.YbulkccooArcsPlain
import Derived.Deep.LoopGhost
import Derived.Deep.QuietTactic
import Derived.BigQuiet
import Derived.Deep.RegionHeld3
import Derived.Deep.Light
import Derived.Maps.Range
import Derived.Deep.DrawnRows
namespace Go.Proofs.Ybulkccoo
open Go.RowKit Gx
attribute [local go_sem ↓] Go.wp_at_zero Go.wp_at_succ

def capped (t most : Int) : Int := if t ≤ most then t else most + 1
theorem capped_over {t most : Int} (h : most < t) : capped t most = most + 1 := if_neg (by omega)
theorem capped_in {t most : Int} (h : t ≤ most) : capped t most = t := if_pos h
theorem ret_i64 {a b : Int} (h : a = b) : Ending.returned (.int .i64 a) = .returned (.int .i64 b) := by rw [h]

/-- the row of marks -/
def rcrow (rc : Nat → Nat) (j : Nat) : Value := .int .i64 (rc j)

theorem rcrow_set (rc : Nat → Nat) (v x : Nat) {y : Int} (hy : y = (x : Int)) (j : Nat) : (if j = v then Value.int .i64 y else rcrow rc j) = rcrow (setAt rc v x) j := by
  unfold rcrow setAt
  by_cases e : j = v
  · rw [if_pos e, if_pos e, hy]
  · rw [if_neg e, if_neg e]

theorem snoc_cases (S : List Nat) : S = [] ∨ ∃ S' v, S = S' ++ [v] := by
  rcases List.eq_nil_or_concat S with h | ⟨S', v, h⟩
  · exact .inl h
  · exact .inr ⟨S', v, by rw [h, List.concat_eq_append]⟩

theorem grown_drewN {w w' : World} {row : Option Nat} (h : w.grownBy w' row) (n : Nat) : w.grownBy (w'.drewN n) row := ⟨h.os, h.tape, h.output, h.size, h.block⟩

theorem grown_set {w w' : World} {b : Nat} (h : w.grownBy w' (some b)) (o : Nat) (x : Value) : w.grownBy (w'.setCell ⟨b, o, none⟩ x) (some b) :=
  ⟨h.os, h.tape, h.output, by simpa [World.setCell] using h.size, fun k hk hne => (Below.heap_setCell _ _ _ _ (by intro e; exact hne (by rw [e]))).trans (h.block k hk hne)⟩

theorem keep_app {W w5 : World} {o : Obj} {g n c : Nat} {a : Addr} {x : Value} (hg : (W.alloc o).drew.grownBy w5 (Value.slice (some ⟨g, 0, none⟩) n c).ownBlock) (h : W.cell? a = some x) (hne : a.block ≠ g) : w5.cell? a = some x := by
  refine hg.cell (a := a) ?_ ?_
  · show (W.alloc o).cell? a = some x
    rw [World.cell?_alloc_lt _ _ _ (World.block_lt_of_cell? W a h)]
    exact h
  · intro e
    exact hne (Option.some.inj e)

theorem grown_alloc {w W : World} {r : Option Nat} (h : w.grownBy W r) (o : Obj) : w.grownBy (W.alloc o) r := h.andThen (World.grownBy_alloc W o none) (fun j hj => by cases hj)
theorem grown_drew {w W : World} {r : Option Nat} (h : w.grownBy W r) : w.grownBy W.drew r := ⟨h.os, h.tape, h.output, h.size, h.block⟩
theorem grown_app {w X w5 : World} {r : Option Nat} {g n c : Nat} (hg : w.grownBy X r) (h5 : X.grownBy w5 (Value.slice (some ⟨g, 0, none⟩) n c).ownBlock) (hB : w.heap.size ≤ g) : w.grownBy w5 r :=
  hg.andThen h5 (fun j hj => .inl (by simp [Value.ownBlock] at hj; omega))
theorem row_app {X w5 : World} {b n' : Nat} {t : TypeId} {f : Nat → Value} {g n c : Nat} (hr : X.rowIs b t n' f) (h5 : X.grownBy w5 (Value.slice (some ⟨g, 0, none⟩) n c).ownBlock) (hne : b ≠ g) : w5.rowIs b t n' f :=
  hr.of_block (h5.block _ hr.lt (by simp [Value.ownBlock]; exact hne))

theorem owns_cap {w : World} {base e g n cap : Nat} {xs : List Value} (h : w.ownsRow base e 1 (.slice (some ⟨g, 0, none⟩) n cap) n xs) : n ≤ cap ∧ cap ≤ maxLen ∧ base ≤ g ∧ g < w.heap.size := by
  rcases h.2 with ⟨h0, _⟩ | ⟨g', cap', cur, hv, hb, hh, h1, h2, _⟩
  · cases h0
  · cases hv
    exact ⟨h1, h2, hb, (Array.getElem?_eq_some_iff.1 hh).1⟩

set_option maxHeartbeats 2000000 in
set_option maxRecDepth 100000 in
theorem arcs_any (G : Gr) (Y : Ly) (W f : Nat → Int) (hS : Sums G (wt G W) f) (m mb cb : Nat) (hsi : ∀ i, G.si i < m) (most : Int) (hm0 : -9223372036854775808 ≤ most) (hm1 : most ≤ 9223372036854775807)
    (w : World) (hP : PgIn G Y w) (hC : CtIn Y.sb mb m W w) (hcb : w.cell? ⟨cb, 3, none⟩ = some (.map (some mb))) :
    Calls Yba.prog 8 #[.pointer (some ⟨Y.p, 0, none⟩), .pointer (some ⟨cb, 0, none⟩), .int .i64 most] w fun e w' =>
      e = .returned (.int .i64 (capped (sumTo f (ents G).length) most)) ∧ Below w.heap.size w w' := by
  obtain ⟨ti, hi, hz0, hz1, hz2⟩ := info_parts Yba.info21
  have hG := hS.ok
  have n1 := hG.n1
  have hE := hS.len
  have hmk := run_make_row' (P := Yba.prog) 52 3 (.int .i64 0) 8 Yba.underlying52 Yba.info3 rfl .i64 .i64 G.n (by omega) (by omega)
  go_enter Yba.func8, Yba.ntmps8
  go_wp2_with fail
  refine (weights_any G Y hG W m mb cb hsi w hP hC hcb).mono ?_
  rintro e w1 ⟨rfl, hwt, hb1⟩
  have hP1 := hP.below hb1
  have c0 := hP1.c0
  have hp : Y.p < w1.heap.size := World.block_lt_of_cell? w1 _ c0
  go_wp2_with fail
  have hP2 := hP1.below ((Below.refl _ w1).alloc (Nat.le_refl _) (Obj.cells (madeCells #[Value.int IntKind.i64 0] G.n) 3))
  refine (entries_any G Y hG _ hP2).mono ?_
  rintro e w3 ⟨v, rfl, hown, hb3⟩
  simp only [World.size_alloc] at hown hb3
  obtain ⟨ge, ecap, rfl, hge, hgl⟩ := hown.form (by omega)
  have hents : ∀ j, j < (ents G).length → w3.cell? ⟨ge, j, none⟩ = some (.int .i32 ((ents G).getD j 0 : Nat)) := fun j hj => by
    rw [hown.cellAt j (by omega)]
    simp [List.getD, hj]
  have hwl := hwt.lt
  have hrow3 : w3.rowIs w1.heap.size 3 G.n (rcrow fun _ => 0) := ((World.rowIs_made w1 (.int .i64 0) G.n 3).congr (g := rcrow fun _ => 0) (fun i _ => rfl)).of_block (hb3.block _ (by omega))
  have hwt3 : w3.rowIs w.heap.size 3 G.n (fun i => .int .i64 (wt G W i)) := hwt.of_block (((((Below.refl _ w1).alloc (Nat.le_refl _) _)).trans (hb3.mono (by omega))).block _ hwl)
  have hbw : Below w.heap.size w w3 := hb1.trans ((((Below.refl _ w1).alloc (by omega) _)).trans (hb3.mono (by omega)))
  have hsz3 := hb3.size
  have hent1 : (ents G).length ≤ 9223372036854775807 := by omega
  simp only [World.size_alloc] at hsz3
  clear hmk hP2 hP1 c0 hp hown hwt hb1 hb3 hC hcb hsi
  go_wp2_with fail
  go_loopw [9, 10, 11, 27] (fun A Wk v i wr => ∃ (k : Nat) (a wk : Int) (rc : Nat → Nat) (ao : Option Addr) (n cap : Nat), k ≤ (ents G).length ∧ i = .int .i64 k ∧ A = .int .i64 a ∧ Wk = .int .i64 wk ∧ v = .slice ao n cap ∧ n ≤ cap ∧ cap ≤ maxLen ∧
      wr.ownsRow w3.heap.size 21 1 (.slice ao 0 cap) 0 [] ∧ Outer G f k most a wk rc ∧ wr.rowIs w1.heap.size 3 G.n (rcrow rc) ∧ w3.grownBy wr (some w1.heap.size)) (fun _ _ _ i _ => (ents G).length - (intOf i).toNat)
  case atStart => exact ⟨0, 0, 0, fun _ => 0, none, 0, 0, Nat.zero_le _, rfl, rfl, rfl, rfl, Nat.le_refl _, Nat.zero_le _, World.ownsRow_nil _ _ _ _, Outer.start (fun _ _ => rfl), hrow3, World.grownBy.refl _ _⟩
  case round =>
    obtain ⟨k, a, wk, rc, ao, n, cap, hk, rfl, rfl, rfl, rfl, hnc, hcm, hst, hout, hrow, hg⟩ := hrel
    have hgs := hg.size
    by_cases hlt : k < (ents G).length
    · have hent : wr.cell? ⟨ge, k, none⟩ = some (.int .i32 ((ents G).getD k 0 : Nat)) := hg.cell (hents k hlt) (by simp; omega)
      have hel := ents_at hG hlt
      have hin := hout.inner hS hlt
      obtain ⟨e, he⟩ : ∃ e, e = (ents G).getD k 0 := ⟨_, rfl⟩
      rw [← he] at hent hel hin
      have HE : Hid (e = (ents G).getD k 0) := he
      clear he hout
      unfold maxLen at hcm
      go_wp2_with (at_builtin; refine wpList_append_lies _ rfl _ _ 24 rfl w3.heap.size 21 ti (.int .i32 0) 1 4 Yba.underlying24 hi hz0 hz1 hz2 rfl (by decide) _ 0 [] rfl (hst.alloc _) ⟨wr.heap.size, 0, none⟩ 1 1 [.int .i32 e] rfl rfl (cell_one_new _ _ _) ?qc2 (by omega) ?qc3 ?qc4 ?qc5 _ rfl ?_)
      case qc2 => exact ints_oneCell .i32 [(e : Int)]
      case qc3 => unfold maxLen; omega
      case qc4 => omega
      case qc5 => simp; omega
      intro g cap1 w4 hown4 hgrow4 _ hlt4
      have hg4 : w3.grownBy w4 (some w1.heap.size) := (hg.andThen (World.grownBy_alloc wr (Obj.cells #[Value.int IntKind.i32 ↑e] 21) none) (fun j hj => by cases hj)).andThen hgrow4 (fun j hj => .inl (hst.lt j hj).1)
      have hrow4 : w4.rowIs w1.heap.size 3 G.n (rcrow rc) := (hrow.alloc _).of_block (hgrow4.block _ (by simp; omega) (fun h => by have := (hst.lt _ h.symm).1; omega))
      clear hgrow4 hrow hg hst hgs hent
      go_wp2
      go_loopg [9, 10, 11] (rest G rc k [e]) (fun gk A Wk v wi => ∃ (a wk : Int) (rc : Nat → Nat) (S : List Nat) (g cap : Nat), A = .int .i64 a ∧ Wk = .int .i64 wk ∧ v = .slice (some ⟨g, 0, none⟩) S.length cap ∧
        wi.ownsRow w3.heap.size 21 1 (.slice (some ⟨g, 0, none⟩) S.length cap) S.length (S.map fun x => .int .i32 (x : Nat)) ∧ Inner G (wt G W) f k e most a wk rc S ∧ wi.rowIs w1.heap.size 3 G.n (rcrow rc) ∧ w3.grownBy wi (some w1.heap.size) ∧ Hid (gk = rest G rc k S ∧ gk ≤ 513))
      case atStart => exact ⟨a, wk, rc, [e], g, cap1, rfl, rfl, rfl, hown4, hin, hrow4, hg4, ⟨rfl, rest_start n1⟩⟩
      case round =>
        clear hown4 hin hrow4 hg4 hlt4
        obtain ⟨a, wk, rc, S, g, cap, rfl, rfl, rfl, hst, hin, hrow, hg, HG⟩ := hrel
        rcases snoc_cases S with rfl | ⟨S, v, rfl⟩
        · have hcap := owns_cap hst
          rw [HE.out] at hin
          have hout := hin.done hS hlt
          go_wp2
          go_roundw
          case rel => exact ⟨k + 1, a, wk, rc, some ⟨g, 0, none⟩, 0, cap, by omega, by go_num, rfl, rfl, rfl, Nat.zero_le _, hcap.2.1, hst, hout, hrow, hg⟩
          case measure => simp [intOf]; omega
        · have hcap := owns_cap hst
          have hvn := hin.dfs.bd v (by simp)
          have hin' := hin
          rw [HE.out] at hin'
          have hbd := hin'.bd hS hlt
          have hcell : wr.cell? ⟨g, S.length, none⟩ = some (.int .i32 (v : Nat)) := by
            rw [hst.cellAt S.length (by simp)]
            simp
          have hrcell : wr.cell? ⟨w1.heap.size, v, none⟩ = some (.int .i64 (rc v : Nat)) := hrow.cell hvn
          have hpop : wr.ownsRow w3.heap.size 21 1 (.slice (some ⟨g, 0, none⟩) S.length cap) S.length (S.map fun x => .int .i32 (x : Nat)) := ownsRow_pop (last := [.int .i32 (v : Nat)]) (by simp) (by simpa using hst)
          have hcap1 : S.length + 1 ≤ cap := by simpa using hcap.1
          have hlenS : (S ++ [v]).length = S.length + 1 := by simp
          have hs0 : (0 : Int) ≤ (S.length : Int) := by omega
          have hs1 : (S.length : Int) + 1 ≤ (cap : Int) := by omega
          have hc63 : cap ≤ 9223372036854775807 := by have := hcap.2.1; unfold maxLen at this; exact this
          clear hst
          go_wp2_with fail
          go_quiet (fail)
          obtain ⟨Wq, hWq⟩ : ∃ Wq, wr.drewN nq = Wq := ⟨_, rfl⟩
          rw [hWq]
          replace hpop : Wq.ownsRow w3.heap.size 21 1 (.slice (some ⟨g, 0, none⟩) S.length cap) S.length (S.map fun x => .int .i32 (x : Nat)) := by rw [← hWq]; exact hpop
          replace hrow : Wq.rowIs w1.heap.size 3 G.n (rcrow rc) := by rw [← hWq]; exact hrow
          replace hg : w3.grownBy Wq (some w1.heap.size) := by rw [← hWq]; exact grown_drewN hg _
          replace hrcell : Wq.cell? ⟨w1.heap.size, v, none⟩ = some (.int .i64 (rc v : Nat)) := hrow.cell hvn
          clear hWq hcell
          by_cases hv : rc v = k + 1
          · have hv' : ((rc v : Int) == (k : Int) + 1) = true := by simp; omega
            go_wp2
            go_roundg (rest G rc k S)
            case measure => rw [HG.out.1]; exact rest_old (cnt_le _ _).2
            case rel => exact ⟨a, wk, rc, S, g, cap, rfl, rfl, rfl, hpop, hin.old hv, hrow, hg, ⟨rfl, by have h1 := HG.out.2; rw [HG.out.1] at h1; have h2 := rest_old (v := v) (S := S) (cnt_le (vis rc k) G.n).2; omega⟩⟩
          · have hv' : ((rc v : Int) == (k : Int) + 1) = false := by simp; omega
            have hwc : Wq.cell? ⟨w.heap.size, v, none⟩ = some (.int .i64 (wt G W v)) := hg.cell (hwt3.cell hvn) (by simp; omega)
            have hrf := hrow.frozen v
            have hwb := hS.wb v
            have hbr : Below w.heap.size w Wq := hbw.grown hg hbw.size (fun j hj => by cases hj; omega)
            have hgs := hg.size
            by_cases hmo : most < a + wt G W v
            · have hover := hin'.over hS hlt hv hmo
              have HO : Hid (capped (sumTo f (ents G).length) most = most + 1) := capped_over hover
              go_wp2
              go_ret
              exact ⟨ret_i64 HO.out.symm, (hbr.setCell (by simp; omega) _)⟩
            · have hnew := hin.new hG hv (by omega)
              have hmeas := rest_new (S := S) hv hvn
              have hS513 : S.length + 1 ≤ 513 := by have h1 := HG.out.2; rw [HG.out.1] at h1; have h2 := rest_len (G := G) (rc := rc) (i := k) (S := S ++ [v]); simp at h2; omega
              have hm513 : rest G (setAt rc v (k + 1)) k (S ++ succs G v) ≤ 513 := by have h1 := HG.out.2; rw [HG.out.1] at h1; omega
              rw [← HG.out.1] at hmeas
              have hpr := hP.below hbr
              have c0 := hpr.c0
              have q0 := hpr.i0 v hvn
              have q2 := hpr.i2 v hvn
              have q3 := hpr.i3 v hvn
              have hbil : Y.bi < w.heap.size := World.block_lt_of_cell? w _ (hP.i0 v hvn)
              have hpil : Y.p < w.heap.size := World.block_lt_of_cell? w _ hP.c0
              have hgne : Y.bi ≠ g := by omega
              have hne1 : Y.p ≠ w1.heap.size := by omega
              have hne2 : Y.bi ≠ w1.heap.size := by omega
              have xr : (Wq.setCell ⟨w1.heap.size, v, none⟩ (.int .i64 (k + 1))).rowIs w1.heap.size 3 G.n (rcrow (setAt rc v (k + 1))) := (hrow.set v _).congr (fun j _ => rcrow_set rc v (k + 1) (by omega) j)
              have xo : (Wq.setCell ⟨w1.heap.size, v, none⟩ (Value.int IntKind.i64 (↑k + 1))).ownsRow w3.heap.size 21 1 (.slice (some ⟨g, 0, none⟩) S.length cap) S.length (S.map fun x => .int .i32 (x : Nat)) := ownsRow_setCell_below hpop (by simp; omega) _
              have xg := grown_set hg v (Value.int IntKind.i64 (↑k + 1))
              clear hin hin' hpr hpop hrow hbr
              by_cases ho1 : G.op v = 1
              · have ho1' : ((G.op v : Int) == 1) = true := by simp [ho1]
                have hsu : succs G v = [G.ou v, G.al v] := by unfold succs; rw [if_pos ho1]
                rw [hsu] at hnew hmeas hm513
                go_wp2
                obtain ⟨Wx, hWx⟩ : ∃ Wx, Wq.setCell ⟨w1.heap.size, v, none⟩ (Value.int IntKind.i64 (↑k + 1)) = Wx := ⟨_, rfl⟩
                have x2 : Wx.cell? ⟨Y.bi, v * 5 + 2, none⟩ = some (.int .i32 (G.ou v)) := by rw [← hWx, World.cell?_setCell_far _ _ _ _ (by simp; omega)]; exact q2
                have x3 : Wx.cell? ⟨Y.bi, v * 5 + 3, none⟩ = some (.int .i32 (G.al v)) := by rw [← hWx, World.cell?_setCell_far _ _ _ _ (by simp; omega)]; exact q3
                rw [hWx] at xo xr xg ⊢
                have hl1 : S.length + 2 ≤ maxLen := by unfold maxLen; omega
                have hl2 : (S.length + 2) * 4 ≤ 140737488355328 := by omega
                have hxs := xg.size
                clear hWx hg q2 q3 q0 c0 hrcell hwc hrf
                go_region_held3 (fun w' => w'.cell? ⟨Y.bi, v * 5 + 2, none⟩ = some (.int .i32 (G.ou v)) ∧ w'.cell? ⟨Y.bi, v * 5 + 3, none⟩ = some (.int .i32 (G.al v))) (first | (go_keep; done) | (exact ⟨keep_app hgrow5 x2 hgne, keep_app hgrow5 x3 hgne⟩))
                  ((refine step_append_lies _ (by rfl) (.tmp 92) (.tmp 101) 24 (by rfl) w3.heap.size 21 ti (.int .i32 0) 1 4 Yba.underlying24 hi hz0 hz1 hz2 rfl (by decide) (.slice (some ⟨g, 0, none⟩) S.length cap) S.length (S.map fun x => .int .i32 (x : Nat)) (by simp [Act.eval]) (by exact xo.alloc _) ⟨Wx.heap.size, 0, none⟩ 2 2 [.int .i32 (G.ou v), .int .i32 (G.al v)] (by simp [Act.eval]) rfl (by exact cell_two_new Wx _ _ _) (ints_oneCell .i32 [(G.ou v : Int), (G.al v : Int)]) (by omega) hl1 hl2 (by simp; omega) _ rfl ?_; intro g2 cap2 w5 hown5 hgrow5 hat5 hlt5))
                have y1 := grown_app (grown_drew (grown_alloc xg _)) hgrow5 hcap.2.2.1
                have y2 : w5.rowIs w1.heap.size 3 G.n (rcrow (setAt rc v (k + 1))) := row_app (xr.alloc _).drew hgrow5 (by omega)
                clear hgrow5 xg xr xo x2 x3
                go_wp2
                go_roundg (rest G (setAt rc v (k + 1)) k (S ++ [G.ou v, G.al v]))
                case measure => exact hmeas
                case rel => exact ⟨_, _, _, S ++ [G.ou v, G.al v], g2, cap2, rfl, rfl, by simp, by simpa using hown5, hnew, y2, y1, ⟨rfl, hm513⟩⟩
              · have ho1' : ((G.op v : Int) == 1) = false := by simp; omega
                by_cases ho2 : G.op v = 2 ∨ G.op v = 3
                · have hsu : succs G v = [G.ou v] := by unfold succs; rw [if_neg ho1, if_pos ho2]
                  rw [hsu] at hnew hmeas hm513
                  have hl1 : S.length + 1 ≤ maxLen := by unfold maxLen; omega
                  have hl2 : (S.length + 1) * 4 ≤ 140737488355328 := by omega
                  rcases ho2 with ho2 | ho2
                  · have ho2' : ((G.op v : Int) == 2) = true := by simp [ho2]
                    go_wp2_with (at_builtin; refine wpList_append_lies _ rfl _ _ 24 rfl w3.heap.size 21 ti (.int .i32 0) 1 4 Yba.underlying24 hi hz0 hz1 hz2 rfl (by decide) _ S.length (S.map fun x => .int .i32 (x : Nat)) rfl (xo.alloc _) ⟨Wq.heap.size, 0, none⟩ 1 1 [.int .i32 (G.ou v)] rfl rfl (by exact cell_one_new' _ _ _ (by simp)) (ints_oneCell .i32 [(G.ou v : Int)]) (by omega) hl1 hl2 (by simp; omega) _ rfl ?_; intro g2 cap2 w5 hown5 hgrow5 hat5 hlt5)
                    have y1 := grown_app (grown_alloc xg _) hgrow5 hcap.2.2.1
                    have y2 : w5.rowIs w1.heap.size 3 G.n (rcrow (setAt rc v (k + 1))) := row_app (xr.alloc _) hgrow5 (by omega)
                    go_roundg (rest G (setAt rc v (k + 1)) k (S ++ [G.ou v]))
                    case measure => exact hmeas
                    case rel => exact ⟨_, _, _, S ++ [G.ou v], g2, cap2, rfl, rfl, by simp, by simpa using hown5, hnew, y2, y1, ⟨rfl, hm513⟩⟩
                  · have ho2' : ((G.op v : Int) == 2) = false := by simp; omega
                    have ho3' : ((G.op v : Int) == 3) = true := by simp [ho2]
                    go_wp2_with (at_builtin; refine wpList_append_lies _ rfl _ _ 24 rfl w3.heap.size 21 ti (.int .i32 0) 1 4 Yba.underlying24 hi hz0 hz1 hz2 rfl (by decide) _ S.length (S.map fun x => .int .i32 (x : Nat)) rfl (xo.alloc _) ⟨Wq.heap.size, 0, none⟩ 1 1 [.int .i32 (G.ou v)] rfl rfl (by exact cell_one_new' _ _ _ (by simp)) (ints_oneCell .i32 [(G.ou v : Int)]) (by omega) hl1 hl2 (by simp; omega) _ rfl ?_; intro g2 cap2 w5 hown5 hgrow5 hat5 hlt5)
                    have y1 := grown_app (grown_alloc xg _) hgrow5 hcap.2.2.1
                    have y2 : w5.rowIs w1.heap.size 3 G.n (rcrow (setAt rc v (k + 1))) := row_app (xr.alloc _) hgrow5 (by omega)
                    go_roundg (rest G (setAt rc v (k + 1)) k (S ++ [G.ou v]))
                    case measure => exact hmeas
                    case rel => exact ⟨_, _, _, S ++ [G.ou v], g2, cap2, rfl, rfl, by simp, by simpa using hown5, hnew, y2, y1, ⟨rfl, hm513⟩⟩
                · have hsu : succs G v = [] := by unfold succs; rw [if_neg ho1, if_neg ho2]
                  rw [hsu, List.append_nil] at hnew hmeas hm513
                  have ho2' : ((G.op v : Int) == 2) = false := by simp; omega
                  have ho3' : ((G.op v : Int) == 3) = false := by simp; omega
                  go_wp2
                  go_roundg (rest G (setAt rc v (k + 1)) k S)
                  case measure => exact hmeas
                  case rel => exact ⟨_, _, _, S, g, cap, rfl, rfl, rfl, xo, hnew, xr, xg, ⟨rfl, hm513⟩⟩
    · have hkE : k = (ents G).length := by omega
      subst hkE
      have hd := hout.done hS
      have HO : Hid (capped (sumTo f (ents G).length) most = a) := (capped_in hd.2).trans hd.1.symm
      have hbr : Below w.heap.size w wr := hbw.grown hg hbw.size (fun j hj => by cases hj; omega)
      clear hd hout
      go_wp2
      go_ret
      exact ⟨ret_i64 HO.out.symm, hbr⟩
end Go.Proofs.Ybulkccoo
