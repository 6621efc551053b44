import Derived.Test.YbulkccooArcs
import Derived.Test.YbulkccooModelPlain
import Derived.Deep.CutRange
namespace Go.Proofs.Ybulkccoo
open Go.RowKit Gx

def rowB (B : Nat → Bool) (i : Nat) : Value := .bool (B i)
theorem rowB_set (B : Nat → Bool) (j i : Nat) : (if i = j then Value.bool true else rowB B i) = rowB (upd B j) i := by
  unfold rowB upd
  by_cases e : i = j
  · rw [if_pos e, if_pos e]
  · rw [if_neg e, if_neg e]

set_option maxHeartbeats 4000000 in
set_option maxRecDepth 100000 in
theorem model_any (G : Gr) (Y : Ly) (W : Nat → Int) (hG : G.Ok) (hW : ∀ i, 0 ≤ W i ∧ W i ≤ 255) (m bx bw : Nat) (hsi : ∀ i, G.si i < m)
    (w : World) (hP : PgIn G Y w) (hX : ∀ i, i < G.n → w.cell? ⟨bx, i, none⟩ = some (.int .i64 (G.si i : Nat))) (hV : ∀ j, j < m → w.cell? ⟨bw, j, none⟩ = some (.int .i64 (W j))) :
    Calls Yba.prog 7 #[.pointer (some ⟨Y.p, 0, none⟩), .slice (some ⟨bx, 0, none⟩) G.n G.n, .slice (some ⟨bw, 0, none⟩) m m] w fun e w' =>
      ∃ f, Sums G (wt G W) f ∧ e = .returned (.int .i64 (sumTo f (ents G).length)) ∧ Below w.heap.size w w' := by
  obtain ⟨ti, hi, hz0, hz1, hz2⟩ := info_parts Yba.info3
  have n1 := hG.n1
  have l1 := hG.l1
  have st1 := hG.st
  have c0 := hP.c0
  have hp : Y.p < w.heap.size := World.block_lt_of_cell? w _ c0
  have hwb := wt_bd (G := G) hW
  have hmk := run_make_row' (P := Yba.prog) 52 3 (.int .i64 0) 8 Yba.underlying52 Yba.info3 rfl .i64 .i64 G.n (by omega) (by omega)
  go_enter Yba.func7, Yba.ntmps7
  go_wp2
  clear hmk
  go_loopw [9] (fun i wr => ∃ k : Nat, k ≤ G.n ∧ i = .int .i64 k ∧ wr.rowIs w.heap.size 3 G.n (wrow G W k) ∧ Below w.heap.size w wr) (fun i _ => G.n - (intOf i).toNat)
  case atStart =>
    exact ⟨0, Nat.zero_le _, rfl, (World.rowIs_made _ _ _ _).congr (fun i _ => by simp [wrow]), (Below.refl _ _).alloc (Nat.le_refl _) _⟩
  case round =>
    obtain ⟨k, hk, rfl, hrow, hb⟩ := hrel
    have hpr := hP.below hb
    have hsz := hb.size
    have c0r := hpr.c0
    by_cases hlt : k < G.n
    · have i0 := hpr.i0 k hlt
      have i1 := hpr.i1 k hlt
      have hrc := hrow.cell hlt
      have hrf := hrow.frozen k
      by_cases ho : G.op k = 0
      · have ho' : ((G.op k : Int) == 0) = true := by simp [ho]
        cases hd : G.dt k
        · rw [hd] at i1
          have hx := (hb.cell (p := ⟨bx, k, none⟩) (World.block_lt_of_cell? w _ (hX k hlt))).trans (hX k hlt)
          have hv := (hb.cell (p := ⟨bw, G.si k, none⟩) (World.block_lt_of_cell? w _ (hV _ (hsi k)))).trans (hV _ (hsi k))
          have hs := hsi k
          have HX : Hid (W (G.si k) = wt G W k) := by simp [Hid, wt, ho, hd]
          go_wp2
          go_roundw
          case rel => exact ⟨k + 1, by omega, by go_num, (hrow.set k _).congr (fun i _ => wrow_hit G W k HX.out i), hb.setCell (Nat.le_refl _) _⟩
          case measure => simp [intOf]; omega
        · rw [hd] at i1
          go_wp2
          go_roundw
          case rel => exact ⟨k + 1, by omega, by go_num, (hrow.set k _).congr (fun i _ => wrow_hit G W k (by simp [wt, ho, hd]) i), hb.setCell (Nat.le_refl _) _⟩
          case measure => simp [intOf]; omega
      · have ho' : ((G.op k : Int) == 0) = false := by simp [ho]
        go_wp2
        go_roundw
        case rel => exact ⟨k + 1, by omega, by go_num, hrow.congr (fun i _ => wrow_miss G W k (by simp [wt, ho]) i), hb⟩
        case measure => simp [intOf]; omega
    · have hkn : k = G.n := by omega
      subst hkn
      have c1 := hpr.c1
      have hrl := hrow.lt
      clear hpr
      obtain ⟨w1, rfl⟩ : ∃ w1, w1 = wr := ⟨_, rfl⟩
      go_wp2
      go_loopw [10, 11] (fun v i wr => ∃ k : Nat, k ≤ G.n ∧ i = .int .i64 k ∧ wr.ownsRow (w.heap.size + 1) 3 1 v (entsTo G k).length ((entsTo G k).map fun x => .int .i64 (x : Nat)) ∧ Below (w.heap.size + 1) w1 wr) (fun _ i _ => G.n - (intOf i).toNat)
      case atStart =>
        exact ⟨0, Nat.zero_le _, rfl, ⟨by simp [entsTo], .inr ⟨w1.heap.size, 1, _, rfl, by omega, heap_alloc_new w1 _, Nat.le_refl _, by decide, rfl, rfl⟩⟩, (Below.refl _ _).alloc (by omega) _⟩
      case round =>
        clear c0r c1
        obtain ⟨k, hk, rfl, hown, hb2⟩ := hrel
        have hpr := hP.below (hb.trans (hb2.mono (by omega)))
        have c0r := hpr.c0
        have hlen := entsTo_len G k
        have hsz2 := hb2.size
        by_cases hlt : k < G.n
        · have i0 := hpr.i0 k hlt
          have i2 := hpr.i2 k hlt
          have hou := hG.ou k
          by_cases ho : G.op k = 0
          · have ho' : ((G.op k : Int) == 0) = true := by simp [ho]
            go_wp2_with (at_builtin; refine wpList_append_own _ rfl _ _ 52 rfl (w.heap.size + 1) 3 ti (.int .i64 0) 1 8 Yba.underlying52 hi hz0 hz1 hz2 rfl (by decide) _ _ _ rfl (hown.alloc _) ⟨wr.heap.size, 0, none⟩ 1 1 [.int .i64 (G.ou k)] rfl rfl ?c1 ?c2 ?c3 ?c4 ?c5 ?_)
            case c1 => exact cell_one_new' _ _ _ (by simp)
            case c2 => intro u hu; simp at hu; subst hu; rfl
            case c3 => unfold maxLen; omega
            case c4 => omega
            case c5 => simp; omega
            intro v' w2 hown' hgrow _
            have hb3 := (hb2.alloc (by omega) _).grown hgrow (by simp; omega) (fun j hj => (hown.lt j hj).1)
            clear hown hgrow i0 i2 hpr
            go_wp2
            go_roundw
            case rel => exact ⟨k + 1, by omega, by go_num, by simpa [entsTo, ho] using hown', hb3⟩
            case measure => simp [intOf]; omega
          · have ho' : ((G.op k : Int) == 0) = false := by simp [ho]
            go_wp2
            go_roundw
            case rel => exact ⟨k + 1, by omega, by go_num, by simpa [entsTo, ho] using hown, hb2⟩
            case measure => simp [intOf]; omega
        · have hkn : k = G.n := by omega
          subst hkn
          clear hlen hpr c0r
          go_wp2
          go_loopw [10, 12] (fun v i wr => ∃ k : Nat, k ≤ G.L ∧ i = .int .i64 k ∧ wr.ownsRow (w.heap.size + 1) 3 1 v (entsL G k).length ((entsL G k).map fun x => .int .i64 (x : Nat)) ∧ Below (w.heap.size + 1) w1 wr) (fun _ i _ => G.L - (intOf i).toNat)
          case atStart => exact ⟨0, Nat.zero_le _, rfl, hown, hb2⟩
          case round =>
            clear hown hb2 hsz2
            obtain ⟨k, hk, rfl, hown, hb2⟩ := hrel
            have hpr := hP.below (hb.trans (hb2.mono (by omega)))
            have c2r := hpr.c2
            have hlen := entsL_len G k
            have hsz2 := hb2.size
            by_cases hlt : k < G.L
            · have i0 := hpr.l0 k hlt
              have hlk := hG.lk k
              have hla : Y.la = some ⟨Y.g, 0, none⟩ := hP.la.resolve_right (by omega)
              rw [hla] at c2r
              clear hla
              go_wp2_with (at_builtin; refine wpList_append_own _ rfl _ _ 52 rfl (w.heap.size + 1) 3 ti (.int .i64 0) 1 8 Yba.underlying52 hi hz0 hz1 hz2 rfl (by decide) _ _ _ rfl (hown.alloc _) ⟨wr.heap.size, 0, none⟩ 1 1 [.int .i64 (G.lk k)] rfl rfl ?d1 ?d2 ?d3 ?d4 ?d5 ?_)
              case d1 => exact cell_one_new' _ _ _ (by simp)
              case d2 => intro u hu; simp at hu; subst hu; rfl
              case d3 => unfold maxLen; omega
              case d4 => omega
              case d5 => simp; omega
              intro v' w2 hown' hgrow _
              have hb3 := (hb2.alloc (by omega) _).grown hgrow (by simp; omega) (fun j hj => (hown.lt j hj).1)
              clear hown hgrow i0 hpr
              go_wp2
              go_roundw
              case rel => exact ⟨k + 1, by omega, by go_num, by simpa [entsL] using hown', hb3⟩
              case measure => simp [intOf]; omega
            · have hkn : k = G.L := by omega
              subst hkn
              obtain ⟨ge, ecap, rfl, hge, hgl⟩ := hown.form (by omega)
              have hE : (entsL G G.L).length = (ents G).length := rfl
              rw [hE] at hown hlen ⊢
              have hents : ∀ j, j < (ents G).length → wr.cell? ⟨ge, j, none⟩ = some (.int .i64 ((ents G).getD j 0 : Nat)) := fun j hj => by
                rw [hown.cellAt j (by omega)]
                show (List.map (fun x : Nat => Value.int IntKind.i64 ↑x) (ents G))[j]? = _
                simp [List.getD, hj]
              have hwt3 : wr.rowIs w.heap.size 3 G.n (fun i => .int .i64 (wt G W i)) := (hrow.congr (fun i hi => by simp [wrow, hi])).of_block (hb2.block _ (by omega))
              have hbw : Below w.heap.size w wr := hb.trans (hb2.mono (by omega))
              obtain ⟨w3, rfl⟩ : ∃ w3, w3 = wr := ⟨_, rfl⟩
              clear hown hb hb2 hpr hrow hrl hsz2 hsz hE
              have hmk := run_make_row' (P := Yba.prog) 79 4 (.bool false) 1 Yba.underlying79 Yba.info4 rfl .i64 .i64 G.n (by omega) (by omega)
              go_wp2
              clear c2r
              go_loopw [13, 14] (fun tv i wr => ∃ (k : Nat) (t : Int) (f : Nat → Int), k ≤ (ents G).length ∧ i = .int .i64 k ∧ tv = .int .i64 t ∧ Part G (wt G W) f k t ∧ Below w3.heap.size w3 wr) (fun _ i _ => (ents G).length - (intOf i).toNat)
              case atStart => exact ⟨0, 0, fun _ => 0, Nat.zero_le _, rfl, rfl, Part.start, Below.refl _ _⟩
              case round =>
                obtain ⟨k, t, f, hk, rfl, rfl, hpart, hb4⟩ := hrel
                have htb := hpart.bd n1 hwb
                have hsz4 := hb4.size
                by_cases hlt : k < (ents G).length
                · have hent : wr.cell? ⟨ge, k, none⟩ = some (.int .i64 ((ents G).getD k 0 : Nat)) := (hb4.cell hgl).trans (hents k hlt)
                  have hel := ents_at hG hlt
                  obtain ⟨e, he⟩ : ∃ e, e = (ents G).getD k 0 := ⟨_, rfl⟩
                  rw [← he] at hent hel
                  have HE : Hid (e = (ents G).getD k 0) := he
                  clear he
                  go_upto_region 25 with fail
                  obtain ⟨Wm, hWm⟩ : ∃ Wm, wr.alloc (Obj.cells (madeCells #[Value.bool false] G.n) 4) = Wm := ⟨_, rfl⟩
                  rw [hWm]
                  obtain ⟨wk, rfl⟩ : ∃ wk, wk = wr := ⟨_, rfl⟩
                  have hm1 : Wm.rowIs wk.heap.size 4 G.n (rowB fun _ => false) := by rw [← hWm]; exact (World.rowIs_made wk (.bool false) G.n 4).congr (fun i _ => rfl)
                  have hm2 : Below wk.heap.size wk Wm := by rw [← hWm]; exact (Below.refl _ _).alloc (Nat.le_refl _) _
                  replace hent := (hm2.cell (p := ⟨ge, k, none⟩) (by simp; omega)).trans hent
                  clear hWm hmk
                  have hmc := hm1.cell hel
                  have hmf := hm1.frozen e
                  go_wp2
                  go_loopw [16] (fun p wr => ∃ (pass : Nat) (B : Nat → Bool), p = .int .i64 pass ∧ RB G e B pass ∧ wr.rowIs wk.heap.size 4 G.n (rowB B) ∧ Below wk.heap.size wk wr) (fun p _ => G.n - (intOf p).toNat)
                  case atStart => exact ⟨0, _, rfl, RB.first hel, (hm1.set e _).congr (fun i _ => rowB_set _ e i), hm2.setCell (Nat.le_refl _) _⟩
                  case round =>
                    clear hent hmc hmf hm1 hm2
                    obtain ⟨pass, B0, rfl, hRB, hrow0, hb5⟩ := hrel
                    have hpn := hRB.lt
                    go_wp2
                    go_loopw [17, 18] (fun c p wr => ∃ (pc : Nat) (ch : Bool) (B : Nat → Bool), c = .bool ch ∧ p = .int .i64 pc ∧ pc ≤ G.n ∧ Pass G e B0 B ch pc ∧ wr.rowIs wk.heap.size 4 G.n (rowB B) ∧ Below wk.heap.size wk wr) (fun _ p _ => G.n - (intOf p).toNat)
                    case atStart => exact ⟨0, false, B0, rfl, rfl, Nat.zero_le _, hRB.begun, hrow0, hb5⟩
                    case round =>
                      clear hrow0 hb5
                      obtain ⟨pc, ch, B, rfl, rfl, hpc, hpass, hrow, hb6⟩ := hrel
                      by_cases hlt6 : pc < G.n
                      · have hbX : Below w.heap.size w wr := hbw.trans ((hb4.trans (hb6.mono hsz4)).mono hbw.size)
                        have hpr := hP.below hbX
                        have c0r := hpr.c0
                        have i0 := hpr.i0 pc hlt6
                        have i1 := hpr.i1 pc hlt6
                        have i2 := hpr.i2 pc hlt6
                        have i3 := hpr.i3 pc hlt6
                        have i4 := hpr.i4 pc hlt6
                        have hou := hG.ou pc
                        have hal := hG.al pc
                        have hrs := hb6.size
                        have hrl := hrow.lt
                        have hbi : Y.bi < wr.heap.size := World.block_lt_of_cell? _ _ i0
                        have hr0 : wr.cell? ⟨wk.heap.size, pc, none⟩ = some (.bool (B pc)) := hrow.cell hlt6
                        have hro : wr.cell? ⟨wk.heap.size, G.ou pc, none⟩ = some (.bool (B (G.ou pc))) := hrow.cell hou
                        have hra : wr.cell? ⟨wk.heap.size, G.al pc, none⟩ = some (.bool (B (G.al pc))) := hrow.cell hal
                        have hfo := hrow.frozen (G.ou pc)
                        have hfa := hrow.frozen (G.al pc)
                        clear hpr
                        cases hB : B pc
                        · rw [hB] at hr0
                          go_wp2
                          go_roundw
                          case rel => exact ⟨pc + 1, ch, B, rfl, by go_num, by omega, hpass.skip hB, hrow, hb6⟩
                          case measure => simp [intOf]; omega
                        · rw [hB] at hr0
                          by_cases ho1 : G.op pc = 1
                          · have e1 : ((G.op pc : Int) == 1) = true := by simp [ho1]
                            cases hbo : B (G.ou pc)
                            · rw [hbo] at hro
                              have hmo := hpass.mark_out hG hlt6 hB ho1 hbo
                              by_cases hoa : G.al pc = G.ou pc
                              · go_wp2
                                go_roundw
                                case rel => exact ⟨pc + 1, true, upd B (G.ou pc), rfl, by go_num, by omega, hmo.go_on, ((hrow.set (G.ou pc) _).alloc _).congr (fun i _ => rowB_set _ _ i), (hb6.setCell (Nat.le_refl _) _).alloc (by simpa using hrs) _⟩
                                case measure => simp [intOf]; omega
                              · cases hba : B (G.al pc)
                                · rw [hba] at hra
                                  have hmo2 := hmo.mark_alt hG hlt6 (upd_of hB) ho1 (by rw [upd_ne hoa]; exact hba)
                                  go_wp2
                                  go_roundw
                                  case rel => exact ⟨pc + 1, true, upd (upd B (G.ou pc)) (G.al pc), rfl, by go_num, by omega, hmo2.go_on, (((hrow.set (G.ou pc) _).congr (fun i _ => rowB_set _ _ i)).set (G.al pc) _ |>.alloc _).congr (fun i _ => rowB_set _ _ i), ((hb6.setCell (Nat.le_refl _) _).setCell (Nat.le_refl _) _).alloc (by simpa using hrs) _⟩
                                  case measure => simp [intOf]; omega
                                · rw [hba] at hra
                                  go_wp2
                                  go_roundw
                                  case rel => exact ⟨pc + 1, true, upd B (G.ou pc), rfl, by go_num, by omega, hmo.go_on, ((hrow.set (G.ou pc) _).alloc _).congr (fun i _ => rowB_set _ _ i), (hb6.setCell (Nat.le_refl _) _).alloc (by simpa using hrs) _⟩
                                  case measure => simp [intOf]; omega
                            · rw [hbo] at hro
                              cases hba : B (G.al pc)
                              · rw [hba] at hra
                                have hmo := hpass.mark_alt hG hlt6 hB ho1 hba
                                go_wp2
                                go_roundw
                                case rel => exact ⟨pc + 1, true, upd B (G.al pc), rfl, by go_num, by omega, hmo.go_on, ((hrow.set (G.al pc) _).alloc _).congr (fun i _ => rowB_set _ _ i), (hb6.setCell (Nat.le_refl _) _).alloc (by simpa using hrs) _⟩
                                case measure => simp [intOf]; omega
                              · rw [hba] at hra
                                go_wp2
                                go_roundw
                                case rel => exact ⟨pc + 1, _, B, rfl, by go_num, by omega, hpass.two_old ho1 hbo hba, hrow.alloc _, hb6.alloc hrs _⟩
                                case measure => simp [intOf]; omega
                          · have e1 : ((G.op pc : Int) == 1) = false := by simp; omega
                            by_cases ho2 : G.op pc = 2 ∨ G.op pc = 3
                            · have hOR := ho2
                              rcases ho2 with ho2 | ho2
                              · have e2 : ((G.op pc : Int) == 2) = true := by simp [ho2]
                                cases hbo : B (G.ou pc)
                                · rw [hbo] at hro
                                  have hmo := hpass.one_new hG hlt6 hB ho1 hOR hbo
                                  go_wp2
                                  go_roundw
                                  case rel => exact ⟨pc + 1, true, upd B (G.ou pc), rfl, by go_num, by omega, hmo, ((hrow.set (G.ou pc) _).alloc _).congr (fun i _ => rowB_set _ _ i), (hb6.setCell (Nat.le_refl _) _).alloc (by simpa using hrs) _⟩
                                  case measure => simp [intOf]; omega
                                · rw [hbo] at hro
                                  go_wp2
                                  go_roundw
                                  case rel => exact ⟨pc + 1, _, B, rfl, by go_num, by omega, hpass.one_old ho1 hOR hbo, hrow.alloc _, hb6.alloc hrs _⟩
                                  case measure => simp [intOf]; omega
                              · have e2 : ((G.op pc : Int) == 2) = false := by simp; omega
                                have e3 : ((G.op pc : Int) == 3) = true := by simp [ho2]
                                cases hbo : B (G.ou pc)
                                · rw [hbo] at hro
                                  have hmo := hpass.one_new hG hlt6 hB ho1 hOR hbo
                                  go_wp2
                                  go_roundw
                                  case rel => exact ⟨pc + 1, true, upd B (G.ou pc), rfl, by go_num, by omega, hmo, ((hrow.set (G.ou pc) _).alloc _).congr (fun i _ => rowB_set _ _ i), (hb6.setCell (Nat.le_refl _) _).alloc (by simpa using hrs) _⟩
                                  case measure => simp [intOf]; omega
                                · rw [hbo] at hro
                                  go_wp2
                                  go_roundw
                                  case rel => exact ⟨pc + 1, _, B, rfl, by go_num, by omega, hpass.one_old ho1 hOR hbo, hrow.alloc _, hb6.alloc hrs _⟩
                                  case measure => simp [intOf]; omega
                            · have e2 : ((G.op pc : Int) == 2) = false := by simp; omega
                              have e3 : ((G.op pc : Int) == 3) = false := by simp; omega
                              go_wp2
                              go_roundw
                              case rel => exact ⟨pc + 1, _, B, rfl, by go_num, by omega, hpass.none ho1 ho2, hrow.alloc _, hb6.alloc hrs _⟩
                              case measure => simp [intOf]; omega
                      · have hkn : pc = G.n := by omega
                        subst hkn
                        cases ch
                        · have hclo := hpass.done
                          have hwt7 : ∀ i, i < G.n → wr.cell? ⟨w.heap.size, i, none⟩ = some (.int .i64 (wt G W i)) := fun i hi => by
                            have hz := hwt3.lt
                            rw [hb6.cell (p := ⟨w.heap.size, i, none⟩) (by simp; omega), hb4.cell (p := ⟨w.heap.size, i, none⟩) (by simpa using hz)]
                            exact hwt3.cell hi
                          go_wp2
                          go_loop [13, 20] (fun tv p => ∃ pc : Nat, pc ≤ G.n ∧ p = .int .i64 pc ∧ tv = .int .i64 (t + wsum (wt G W) B pc)) (fun _ p => G.n - (intOf p).toNat)
                          case atStart => exact ⟨0, Nat.zero_le _, rfl, by simp [wsum]⟩
                          case round =>
                            obtain ⟨pc, hpc7, rfl, rfl⟩ := hrel
                            have hwsb := wsum_bd hwb B pc
                            by_cases hlt7 : pc < G.n
                            · have r1 : wr.cell? ⟨wk.heap.size, pc, none⟩ = some (.bool (B pc)) := hrow.cell hlt7
                              have r2 := hwt7 pc hlt7
                              have r3 := hwb pc
                              cases hB : B pc
                              · rw [hB] at r1
                                have HS : Hid (wsum (wt G W) B (pc + 1) = wsum (wt G W) B pc) := by simp [Hid, wsum, hB]
                                go_wp2
                                go_round
                                case rel => exact ⟨pc + 1, by omega, by go_num, by rw [HS.out]⟩
                                case measure => simp [intOf]; omega
                              · rw [hB] at r1
                                have HS : Hid (wsum (wt G W) B (pc + 1) = wsum (wt G W) B pc + wt G W pc) := by simp [Hid, wsum, hB]
                                go_wp2
                                go_round
                                case rel => exact ⟨pc + 1, by omega, by go_num, by rw [HS.out]; go_num⟩
                                case measure => simp [intOf]; omega
                            · have hkn : pc = G.n := by omega
                              subst hkn
                              rw [HE.out] at hclo
                              obtain ⟨f', hf'⟩ := hpart.next (x := wsum (wt G W) B G.n) ⟨B, hclo, rfl⟩
                              go_wp2
                              go_roundw
                              case rel => exact ⟨k + 1, _, f', by omega, by go_num, rfl, hf', hb4.trans (hb6.mono hsz4)⟩
                              case measure => simp [intOf]; omega
                        · have hRB' := hpass.next hRB
                          go_wp2
                          go_roundw
                          case rel => exact ⟨pass + 1, B, by go_num, hRB', hrow, hb6⟩
                          case measure => simp [intOf]; omega
                · have hkn : k = (ents G).length := by omega
                  subst hkn
                  have hsum := hpart.done hG hwb
                  have HT : Hid (t = sumTo f (ents G).length) := hpart.t
                  go_wp2
                  go_ret
                  exact ⟨f, hsum, ret_i64 HT.out, hbw.trans (hb4.mono hbw.size)⟩
end Go.Proofs.Ybulkccoo
