import Derived.Test.YbulkccooLawParts
import Derived.Deep.RegionLaw
namespace Go.Proofs.Ybulkccoo
open Go.RowKit Gx
attribute [local go_sem ↓] Go.wp_at_zero Go.wp_at_succ

set_option maxHeartbeats 4000000 in
set_option maxRecDepth 100000 in
theorem law_in (G : Gr) (m : Nat) (W : Nat → Int) (w : World) (bI oI nc : Nat) (start : Int) (la : Option Addr) (bL oL lc : Nat) (wa : Option Addr) (bW oW lw wcap : Nat) (xop xou xal xse xlk : Nat → Int) (most : Int)
    (hm0 : -9223372036854775808 ≤ most) (hm1 : most ≤ 9223372036854775807)
    (h : LawIn G m W w bI oI start la bL oL wa bW oW lw xop xou xal xse xlk) :
    Calls Yba.prog 4 #[.slice (some ⟨bI, oI, none⟩) G.n nc, .int .u16 start, .slice la G.L lc, .slice wa lw wcap, .int .i64 most] w fun e w' => e = .returned (.bool true) ∧ Below w.heap.size w w' := by
  have hG := h.ok
  have n0 := hG.n0
  have n1 := hG.n1
  have l1 := hG.l1
  have m0 := h.m0
  have m1 := h.m1
  have g0 : ((G.n : Int) == 0) = false := by simp; omega
  have g1 : decide ((256 : Int) < (G.n : Int)) = false := by simp; omega
  have g2 : decide ((256 : Int) < (G.L : Int)) = false := by simp; omega
  have g3 : decide ((256 : Int) < (lw : Int)) = false := by simp; omega
  have hmk51 := run_make_any 51 41 _ 3 40 Yba.underlying51 Yba.info41' m (by omega) (by omega)
  have hmk52 := run_make_row' (P := Yba.prog) 52 3 (.int .i64 0) 8 Yba.underlying52 Yba.info3 rfl .i64 .i64 m (by omega) (by omega)
  have hmm := run_makeMap_hint m
  go_enter Yba.func4, Yba.ntmps4
  go_upto_if 50 with fail
  go_cut [12] (fun v wx => v = .int .i64 m ∧ w = wx)
  case first =>
    clear hmk51 hmk52 hmm
    rcases m0 with ⟨hl, hm⟩ | ⟨hl, hm⟩
    · have hl' : ((lw : Int) == 0) = true := by simp [hl]
      have HM : Hid (m = 1) := hm
      clear hm hl
      go_wp2
      go_meet
      case rel => exact ⟨by rw [HM.out]; rfl, rfl⟩
    · have hl' : ((lw : Int) == 0) = false := by simp; omega
      have HM : Hid (m = lw) := hm
      clear hm
      go_wp2
      go_meet
      case rel => exact ⟨by rw [HM.out], rfl⟩
  case rest =>
    obtain ⟨rfl, rfl⟩ := hcut
    have hmp : 0 < m := by omega
    have hml : m ≤ 256 := by omega
    go_wp2
    clear hmk51 hmk52 hmm
    go_loopw [16] (fun i wr => ∃ j : Nat, j ≤ m ∧ i = .int .i64 j ∧ Tab w wr m W j) (fun i _ => m - (intOf i).toNat)
    case atStart => exact ⟨0, Nat.zero_le _, rfl, Tab.start w m W _⟩
    case round =>
      obtain ⟨j, hj, rfl, ht⟩ := hrel
      have hb := ht.below
      have hsz := hb.size
      have hrl := ht.row.lt
      by_cases hlt : j < m
      · have hrc := ht.row.cell hlt
        have hrf := ht.row.frozen j
        have hmu := ht.run
        rcases m0 with ⟨hl, hm⟩ | ⟨hl, hm⟩
        · have hw1 := h.w1 hl j
          have hl' : lw ≤ 0 := by omega
          rw [hw1] at hmu
          clear hl hm
          go_wp2
          go_roundw
          case rel => exact ⟨j + 1, by omega, by go_num, ht.step (h.w1 (by omega) j).symm⟩
          case measure => simp [intOf]; omega
        · have hwc : wr.cell? ⟨bW, oW + j, none⟩ = some (.int .u8 (W j)) := (hb.cell (World.block_lt_of_cell? w _ (h.wc j (by omega)))).trans (h.wc j (by omega))
          obtain rfl : wa = some ⟨bW, oW, none⟩ := h.wa.resolve_right (by omega)
          have hwb := h.wb j
          have hjw : j < lw := by omega
          clear hm
          go_wp2
          go_roundw
          case rel => exact ⟨j + 1, by omega, by go_num, ht.step rfl⟩
          case measure => simp [intOf]; omega
      · have hkn : m = j := by omega
        subst hkn
        obtain ⟨w1, rfl⟩ : ∃ w1, w1 = wr := ⟨_, rfl⟩
        have hst0 := h.st0
        have hst := h.st
        have hst1 := hG.st
        have hmk56 := run_make_any 56 65 _ 5 24 Yba.underlying56 Yba.info65 G.n (by omega) (by omega)
        have hmk52 := run_make_row' (P := Yba.prog) 52 3 (.int .i64 0) 8 Yba.underlying52 Yba.info3 rfl .i64 .i64 G.n (by omega) (by omega)
        clear hrl hsz hlt hj
        go_wp2
        clear hmk52 hmk56 hst hst0
        obtain ⟨z, hz⟩ := Ins.start w1 G w.heap.size #[Value.int IntKind.u8 0, Value.bool false, Value.int IntKind.i32 0, Value.int IntKind.i32 0, Value.pointer none]
        go_loopw [20] (fun i wr => ∃ k : Nat, k ≤ G.n ∧ i = .int .i64 k ∧ Ins w1 wr G w.heap.size z k) (fun i _ => G.n - (intOf i).toNat)
        case atStart => exact ⟨0, Nat.zero_le _, rfl, hz⟩
        case round =>
          clear hz
          obtain ⟨k, hk, rfl, hI⟩ := hrel
          have hb1 := hI.below
          have hbW : Below w.heap.size w wr := hb.trans (hb1.mono hb.size)
          by_cases hlt : k < G.n
          · have q0 := (hbW.cell (World.block_lt_of_cell? w _ (h.i0 k hlt))).trans (h.i0 k hlt)
            have q1 := (hbW.cell (World.block_lt_of_cell? w _ (h.i1 k hlt))).trans (h.i1 k hlt)
            have q2 := (hbW.cell (World.block_lt_of_cell? w _ (h.i2 k hlt))).trans (h.i2 k hlt)
            have q3 := (hbW.cell (World.block_lt_of_cell? w _ (h.i3 k hlt))).trans (h.i3 k hlt)
            have q4 := (hbW.cell (World.block_lt_of_cell? w _ (h.i4 k hlt))).trans (h.i4 k hlt)
            have hbd0 := h.b0 k hlt
            have hbd2 := h.b2 k hlt
            have hbd3 := h.b3 k hlt
            have hbd4 := h.b4 k hlt
            have he4 := h.e4 k hlt
            have hxc := hI.idx.cell hlt
            have hxf := hI.idx.frozen k
            have hxl := hI.idx.lt
            have hsik := h.si k
            go_wp2
            obtain ⟨Wx, hWx⟩ : ∃ Wx, (wr.setCell ⟨w1.heap.size + 1 + 1, k, none⟩ (Value.int IntKind.i64 ↑(G.si k))).alloc (Obj.cells #[Value.int IntKind.u8 (xop k), Value.bool (G.dt k), Value.int IntKind.u16 (xou k), Value.int IntKind.u16 (xal k), Value.int IntKind.u8 (xse k)] 62) = Wx := ⟨_, rfl⟩
            obtain ⟨B, hB⟩ : ∃ B, wr.heap.size = B := ⟨_, rfl⟩
            have hx1 : Wx.heap[w1.heap.size]? = some (.cells #[.slice (some ⟨w1.heap.size + 1, 0, none⟩) G.n G.n, .int .i32 G.st, .slice none 0 0, .pointer none] 60 (0, 0)) := by
              rw [← hWx, Below.heap_alloc _ _ _ (by simp; omega), Below.heap_setCell _ _ _ _ (by simp; omega)]; exact hI.prog
            have hx2 : Wx.rowIs (w1.heap.size + 1) 65 (G.n * 5) (irow G w.heap.size z k) := by rw [← hWx]; exact (hI.row.setOther (by simp) _).alloc _
            have hx3 : Wx.rowIs (w1.heap.size + 1 + 1) 3 G.n (frow (fun i => (G.si i : Nat)) (k + 1)) := by rw [← hWx]; exact ((hI.idx.set k _).congr (fun i _ => frow_hit _ k rfl i)).alloc _
            have hx4 : Below w1.heap.size w1 Wx := by rw [← hWx]; exact (hb1.setCell (by simp; omega) _).alloc (by simpa using hb1.size) _
            have hx5 : Wx.heap[B]? = some (.cells #[Value.int IntKind.u8 (xop k), Value.bool (G.dt k), Value.int IntKind.u16 (xou k), Value.int IntKind.u16 (xal k), Value.int IntKind.u8 (xse k)] 62 (0, 0)) := by
              rw [← hWx, ← hB]; have := heap_alloc_new (wr.setCell ⟨w1.heap.size + 1 + 1, k, none⟩ (Value.int IntKind.i64 ↑(G.si k))) (Obj.cells #[Value.int IntKind.u8 (xop k), Value.bool (G.dt k), Value.int IntKind.u16 (xou k), Value.int IntKind.u16 (xal k), Value.int IntKind.u8 (xse k)] 62); simpa [World.setCell] using this
            rw [hWx, hB]
            have hBl : w1.heap.size + 1 + 1 < B := by omega
            have y0 : Wx.cell? ⟨w1.heap.size, 0, none⟩ = some (.slice (some ⟨w1.heap.size + 1, 0, none⟩) G.n G.n) := by simp [World.cell?, hx1]
            have y1 : Wx.cell? ⟨B, 0, none⟩ = some (.int .u8 (xop k)) := by simp [World.cell?, hx5]
            have y2 : Wx.cell? ⟨B, 1, none⟩ = some (.bool (G.dt k)) := by simp [World.cell?, hx5]
            have y3 : Wx.cell? ⟨B, 2, none⟩ = some (.int .u16 (xou k)) := by simp [World.cell?, hx5]
            have y4 : Wx.cell? ⟨B, 3, none⟩ = some (.int .u16 (xal k)) := by simp [World.cell?, hx5]
            have y5 : Wx.cell? ⟨w1.heap.size + 1 + 1, k, none⟩ = some (.int .i64 (G.si k)) := by rw [hx3.cell hlt]; simp [frow]
            have he0 := h.e0 k hlt
            have he2 := h.e2 k hlt
            have he3 := h.e3 k hlt
            have hou := hG.ou k
            have hal := hG.al k
            have hop := hG.op k
            have t0 := hx2.cell (i := k * 5) (by omega)
            have t1 := hx2.cell (i := k * 5 + 1) (by omega)
            have t2 := hx2.cell (i := k * 5 + 2) (by omega)
            have t3 := hx2.cell (i := k * 5 + 3) (by omega)
            have t4 := hx2.cell (i := k * 5 + 4) (by omega)
            have f0 := hx2.frozen (k * 5)
            have f1 := hx2.frozen (k * 5 + 1)
            have f2 := hx2.frozen (k * 5 + 2)
            have f3 := hx2.frozen (k * 5 + 3)
            have f4 := hx2.frozen (k * 5 + 4)
            have hB1 : ¬ B = w1.heap.size + 1 := by omega
            have hB2 : ¬ w1.heap.size + 1 = B := by omega
            have ht2 : (xou k).tmod (G.n : Int) = (G.ou k : Nat) := by rw [Int.tmod_eq_emod_of_nonneg hbd2.1]; exact he2
            have ht3 : (xal k).tmod (G.n : Int) = (G.al k : Nat) := by rw [Int.tmod_eq_emod_of_nonneg hbd3.1]; exact he3
            have hwr2 : IntKind.i32.wrap (G.ou k : Nat) = (G.ou k : Nat) := by rw [IntKind.wrap_i32]; omega
            have hwr3 : IntKind.i32.wrap (G.al k : Nat) = (G.al k : Nat) := by rw [IntKind.wrap_i32]; omega
            have hwr4 : IntKind.i64.wrap (G.ou k : Nat) = (G.ou k : Nat) := by rw [IntKind.wrap_i64]; omega
            have hwr5 : IntKind.i64.wrap (G.al k : Nat) = (G.al k : Nat) := by rw [IntKind.wrap_i64]; omega
            have hn9 : ¬ G.n = 0 := by omega
            have hk0 : (0 : Int) ≤ (k : Int) := by omega
            have hk1 : (k : Int) < (G.n : Int) := by omega
            have hs0 : (0 : Int) ≤ (G.si k : Int) := by omega
            have hs1 : (G.si k : Int) < (m : Int) := by omega
            clear hI hb1 hbW q0 q1 q2 q3 q4 hxc hxf hxl hWx hB
            go_region_held3 (fun w' => w'.cell? ⟨w1.heap.size, 0, none⟩ = some (.slice (some ⟨w1.heap.size + 1, 0, none⟩) G.n G.n) ∧ w'.cell? ⟨B, 0, none⟩ = some (.int .u8 (xop k)) ∧ w'.cell? ⟨B, 1, none⟩ = some (.bool (G.dt k)) ∧ w'.cell? ⟨B, 2, none⟩ = some (.int .u16 (xou k)) ∧ w'.cell? ⟨B, 3, none⟩ = some (.int .u16 (xal k)) ∧ w'.cell? ⟨w1.heap.size + 1 + 1, k, none⟩ = some (.int .i64 (G.si k))) (go_keep) (fail)
            go_wp2
            go_roundw
            case rel => exact ⟨k + 1, by omega, by go_num, (Ins.store hx1 hx2 hx3 hx4 he0 he2 he3).drew⟩
            case measure => simp [intOf]; omega
          · have hkn : k = G.n := by omega
            subst hkn
            obtain ⟨w2, rfl⟩ : ∃ w2, w2 = wr := ⟨_, rfl⟩
            have hL0 := hI.looks
            have hbl2 := hI.below.size
            have hxl := hI.idx.lt
            go_wp2
            go_loopw [22] (fun i wr => ∃ (j : Nat) (ao : Option Addr) (c : Nat), j ≤ G.L ∧ i = .int .i64 j ∧ Lks w1 w2 wr G j ao c) (fun i _ => G.L - (intOf i).toNat)
            case atStart => exact ⟨0, none, 0, Nat.zero_le _, rfl, hL0⟩
            case round =>
              clear hL0
              obtain ⟨j, ao, c, hj, rfl, hK⟩ := hrel
              have hgs := hK.grown.size
              by_cases hlt3 : j < G.L
              · have hbr : Below w.heap.size w wr := hbW.grown hK.grown hbW.size (fun i hi => by cases hi; exact hb.size)
                have q0 := (hbr.cell (World.block_lt_of_cell? w _ (h.l0 j hlt3))).trans (h.l0 j hlt3)
                have hbLl : bL < w.heap.size := World.block_lt_of_cell? w _ (h.l0 j hlt3)
                have hbd := h.lb j hlt3
                have hle := h.le j hlt3
                have hlk := hG.lk j
                obtain rfl : la = some ⟨bL, oL, none⟩ := h.la.resolve_right (by omega)
                obtain ⟨tj, hij, hjz0, hjz1, hjz2⟩ := info_parts Yba.info67
                have y0 : wr.cell? ⟨w1.heap.size, 2, none⟩ = some (.slice ao j c) := by simp [World.cell?, hK.prog]
                have f0 : wr.frozen? ⟨w1.heap.size, 2, none⟩ = false := by simp [World.frozen?, hK.prog]
                have xo := hK.own
                have xg := hK.grown
                have hw1 := hb.size
                have htm : (xlk j).tmod (G.n : Int) = (G.lk j : Nat) := by rw [Int.tmod_eq_emod_of_nonneg hbd.1]; exact hle
                have hwr1 : IntKind.i32.wrap (G.lk j : Nat) = (G.lk j : Nat) := by rw [IntKind.wrap_i32]; omega
                have hwr0 : IntKind.i64.wrap (xlk j) = xlk j := by rw [IntKind.wrap_i64]; omega
                have hn9 : ¬ G.n = 0 := by omega
                have hj0 : (0 : Int) ≤ (j : Int) := by omega
                have hj1 : (j : Int) < (G.L : Int) := by omega
                have hl1 : j + 1 ≤ maxLen := by unfold maxLen; omega
                have hl2 : (j + 1) * 8 ≤ 140737488355328 := by omega
                have hne : ¬ bL = w1.heap.size := by omega
                have z0 := keep3_alloc (o := Obj.cells #[Value.int IntKind.i32 ↑(G.lk j), Value.bool false, Value.bool false] 67) y0 f0 q0
                have hn1 := own_ne xo (k := w1.heap.size) (by omega)
                have hn2 := own_ne xo (k := bL) (by omega)
                clear hbr hI
                go_wp2
                go_region_law ((refine step_append_lies _ (by rfl) (.tmp 150) (.tmp 160) 57 (by rfl) w2.heap.size 67 tj (.agg #[.int .i32 0, .bool false, .bool false]) 3 8 Yba.underlying57 hij hjz0 hjz1 hjz2 rfl (by decide) (.slice ao j c) j (lcells G j) (by simp [Act.eval]) (by exact xo.alloc _) ⟨wr.heap.size, 0, none⟩ 1 1 [.int .i32 (G.lk j), .bool false, .bool false] (by simp [Act.eval]) rfl (by exact cell_three_new wr _ _ _ _) (lcells_one G j) (by omega) hl1 hl2 (by simp; omega) _ rfl ?_; intro g2 cap2 w5 hown5 hgrow5 hat5 hlt5; have z5 := keep3_app hgrow5 z0.1 z0.2.1 z0.2.2 hn1 hn2))
                all_goals
                  go_wp2
                  go_roundw
                  case rel => exact ⟨j + 1, _, _, by omega, by go_num, hK.step (by omega) hgrow5 hown5⟩
                  case measure => simp [intOf]; omega
              · have hkn : j = G.L := by omega
                subst hkn
                obtain ⟨Y, hYp, hYs, hF⟩ := fin_of ht hI hK
                clear ht hI hK hgs hlt3 hj hb hb1 hbW
                have HP : Hid (Y.p = w1.heap.size) := hYp
                have HQ : Hid (Y.sb = w.heap.size) := hYs
                clear hYp hYs
                obtain ⟨w3, rfl⟩ : ∃ w3, w3 = wr := ⟨_, rfl⟩
                have hF1 := hF.later ((Below.refl _ _).alloc (Nat.le_refl _) (Obj.cells #[Value.slice none 0 0, Value.slice none 0 0, Value.int IntKind.i64 0, Value.map (some (w.heap.size + 1 + 1))] 71))
                go_wp2_with fail
                have hmc := model_any G Y W hG h.wb m (w1.heap.size + 1 + 1) (w.heap.size + 1) h.si _ hF1.pg hF1.idx hF1.wts
                rw [HP.out] at hmc
                refine hmc.mono ?_
                clear hmc
                rintro e w4 ⟨f, hS, rfl, hb4⟩
                have hF4 := hF1.later hb4
                have hcb4 : w4.cell? ⟨w3.heap.size, 3, none⟩ = some (.map (some (w.heap.size + 1 + 1))) := keep_below hb4 _ _ (by simp)
                have htot := hS.total (Nat.le_refl _)
                have hac := arcs_any G Y W f hS m (w.heap.size + 1 + 1) w3.heap.size h.si most hm0 hm1 w4 hF4.pg hF4.ct hcb4
                rw [HP.out] at hac
                obtain ⟨T, hT⟩ : ∃ T, T = sumTo f (ents G).length := ⟨_, rfl⟩
                rw [← hT] at htot hac ⊢
                have HT : Hid (T = sumTo f (ents G).length) := hT
                clear hT hF1 hb4 hF
                go_upto_if 174 with fail
                go_cut [25] (fun v wx => v = .int .i64 (capped T most) ∧ w4 = wx)
                case first =>
                  clear hac
                  by_cases hov : most < T
                  · have HC : Hid (capped T most = most + 1) := capped_over hov
                    go_wp2
                    go_meet
                    case rel => exact ⟨by rw [HC.out], rfl⟩
                  · have HC : Hid (capped T most = T) := capped_in (by omega)
                    go_wp2
                    go_meet
                    case rel => exact ⟨by rw [HC.out], rfl⟩
                case rest =>
                  obtain ⟨rfl, rfl⟩ := hcut
                  obtain ⟨C, hC⟩ : ∃ C, C = capped T most := ⟨_, rfl⟩
                  rw [← hC] at hac ⊢
                  clear hC
                  go_wp2_with fail
                  refine hac.mono ?_
                  clear hac
                  rintro e w5 ⟨rfl, hb5⟩
                  have hF5 := hF4.later hb5
                  have hcb5 := keep_below hb5 _ _ hcb4
                  have hac2 := arcs_any G Y W f hS m (w.heap.size + 1 + 1) w3.heap.size h.si 9223372036854775807 (by omega) (by omega) w5 hF5.pg hF5.ct hcb5
                  rw [HP.out, ← HT.out, capped_in (by omega)] at hac2
                  clear hF4 hcb4 hb5
                  go_wp2_with fail
                  refine hac2.mono ?_
                  clear hac2
                  rintro e w6 ⟨rfl, hb6⟩
                  have hF6 := hF5.later hb6
                  clear hF5 hcb5 hb6
                  have hmap6 := hF6.ct.map
                  have hms := mkEs_size Y.sb W m
                  go_wp2_with (at_len; refine wpList_len_at rfl _ rfl (w.heap.size + 1 + 1) m m _ rfl hmap6 (mkEs_size Y.sb W m) ?_)
                  go_loopw [26] (fun i wr => ∃ j nq : Nat, j ≤ m ∧ i = .int .i64 j ∧ wr = w6.drewN nq) (fun i _ => m - (intOf i).toNat)
                  case atStart => exact ⟨0, 0, Nat.zero_le _, rfl, rfl⟩
                  case round =>
                    obtain ⟨j, nq, hj, rfl, rfl⟩ := hrel
                    by_cases hlt4 : j < m
                    · have hlk : ∀ n, (Instr.lookup 53 (.map (some (w.heap.size + 1 + 1))) (.pointer (some ⟨w.heap.size, j * 3, none⟩)) false).run Yba.prog (w6.drewN n) = .ok (.int .i64 (W j)) (w6.drewN n) := fun n => by
                        have := (hF6.ct.drewN n).look false hlt4
                        rw [HQ.out] at this
                        exact this
                      have hwc := hF6.wts j hlt4
                      have hj0 : (0 : Int) ≤ (j : Int) := by omega
                      have hj1 : (j : Int) < (m : Int) := by omega
                      clear hmap6 hms
                      go_wp2_with fail
                      go_quiet (fail)
                      go_wp2
                      go_roundw
                      case rel => exact ⟨j + 1, _, by omega, by go_num, rfl⟩
                      case measure => simp [intOf]; omega
                    · have hkn : j = m := by omega
                      subst hkn
                      have hbe := below_drewN hF6.below nq
                      go_wp2
                      go_ret
                      exact ⟨rfl, hbe⟩
end Go.Proofs.Ybulkccoo
