import Derived.Test.YbulkccooMem
namespace Go.Proofs.Ybulkccoo
open Go.RowKit Gx

theorem cell_one_new' {w : World} (x : Value) (t : TypeId) (B : Nat) (hB : w.heap.size = B) : ∀ j u, [x][j]? = some u → (w.alloc (.cells #[x] t)).cell? ((⟨B, 0, none⟩ : Addr).add j) = some u := by
  subst hB
  exact cell_one_new w x t

set_option maxHeartbeats 1000000 in
set_option maxRecDepth 100000 in
theorem entries_any (G : Gr) (Y : Ly) (hG : G.Ok) (w : World) (hP : PgIn G Y w) :
    Calls Yba.prog 13 #[.pointer (some ⟨Y.p, 0, none⟩)] w fun e w' => ∃ v, e = .returned v ∧ w'.ownsRow w.heap.size 21 1 v (ents G).length ((ents G).map fun x => .int .i32 (x : Nat)) ∧ Below w.heap.size w w' := by
  obtain ⟨ti, hi, hz0, hz1, hz2⟩ := info_parts Yba.info21
  have c0 := hP.c0
  have c1 := hP.c1
  have hp : Y.p < w.heap.size := World.block_lt_of_cell? w _ c0
  have n1 := hG.n1
  have l1 := hG.l1
  go_enter Yba.func13, Yba.ntmps13
  go_wp2
  go_loopw [3, 18] (fun v i wr => ∃ k : Nat, k ≤ G.n ∧ i = .int .i64 k ∧ wr.ownsRow w.heap.size 21 1 v (entsTo G k).length ((entsTo G k).map fun x => .int .i32 (x : Nat)) ∧ Below w.heap.size w wr) (fun _ i _ => G.n - (intOf i).toNat)
  case atStart =>
    refine ⟨0, Nat.zero_le _, rfl, ⟨by simp [entsTo], .inr ⟨w.heap.size, 1, _, rfl, Nat.le_refl _, heap_alloc_new w _, Nat.le_refl _, by decide, rfl, rfl⟩⟩, (Below.refl _ _).alloc (Nat.le_refl _) _⟩
  case round =>
    obtain ⟨k, hk, rfl, hown, hb⟩ := hrel
    have hpr := hP.below hb
    have hlen := entsTo_len G k
    have hsz := hb.size
    by_cases hlt : k < G.n
    · have i0 := hpr.i0 k hlt
      have i1 := hpr.i1 k hlt
      have i2 := hpr.i2 k hlt
      have i3 := hpr.i3 k hlt
      have i4 := hpr.i4 k hlt
      have hbi : Y.bi < wr.heap.size := World.block_lt_of_cell? _ _ i0
      by_cases ho : G.op k = 0
      · have ho' : ((G.op k : Int) == 0) = true := by simp [ho]
        go_wp2_with (at_builtin; refine wpList_append_own _ rfl _ _ 24 rfl w.heap.size 21 ti (.int .i32 0) 1 4 Yba.underlying24 hi hz0 hz1 hz2 rfl (by decide) _ _ _ rfl ((hown.alloc _).alloc _) ⟨wr.heap.size + 1, 0, none⟩ 1 1 [.int .i32 (G.ou k)] rfl rfl ?c1 ?c2 ?c3 ?c4 ?c5 ?_)
        case c1 => exact cell_one_new' _ _ _ (by simp)
        case c2 => intro u hu; simp at hu; subst hu; rfl
        case c3 => unfold maxLen; omega
        case c4 => omega
        case c5 => simp; omega
        intro v' w1 hown' hgrow _
        have hb1 := ((hb.alloc hsz _).alloc (by simp; omega) _).grown hgrow (by simp; omega) (fun j hj => (hown.lt j hj).1)
        clear hown hgrow i0 i1 i2 i3 i4 hpr
        go_wp2
        go_roundw
        case rel => exact ⟨k + 1, by omega, by go_num, by simpa [entsTo, ho] using hown', hb1⟩
        case measure => simp [intOf]; omega
      · have ho' : ((G.op k : Int) == 0) = false := by simp [ho]
        go_wp2
        go_roundw
        case rel => exact ⟨k + 1, by omega, by go_num, by simpa [entsTo, ho] using hown.alloc _, hb.alloc hsz _⟩
        case measure => simp [intOf]; omega
    · have hkn : k = G.n := by omega
      subst hkn
      have c2 := hpr.c2
      have hla := hP.la
      have hpw : Y.p < wr.heap.size := World.block_lt_of_cell? _ _ c2
      have hown0 := hown
      clear hown hlen hpr hsz c0 c1 hp
      rcases hla with hla | hla
      · rw [hla] at c2
        clear hla
        go_wp2
        go_loopw [3, 36] (fun v i wr => ∃ k : Nat, k ≤ G.L ∧ i = .int .i64 k ∧ wr.ownsRow w.heap.size 21 1 v (entsL G k).length ((entsL G k).map fun x => .int .i32 (x : Nat)) ∧ Below w.heap.size w wr) (fun _ i _ => G.L - (intOf i).toNat)
        case atStart => exact ⟨0, Nat.zero_le _, rfl, hown0, hb⟩
        case round =>
          clear hown0 hb c2 hpw
          obtain ⟨k, hk, rfl, hown, hb⟩ := hrel
          have hpr := hP.below hb
          have hlen := entsL_len G k
          have hsz := hb.size
          by_cases hlt : k < G.L
          · have i0 := hpr.l0 k hlt
            have i1 := hpr.l1 k hlt
            have i2 := hpr.l2 k hlt
            have hbi : Y.g < wr.heap.size := World.block_lt_of_cell? _ _ i0
            go_wp2_with (at_builtin; refine wpList_append_own _ rfl _ _ 24 rfl w.heap.size 21 ti (.int .i32 0) 1 4 Yba.underlying24 hi hz0 hz1 hz2 rfl (by decide) _ _ _ rfl ((hown.alloc _).alloc _) ⟨wr.heap.size + 1, 0, none⟩ 1 1 [.int .i32 (G.lk k)] rfl rfl ?d1 ?d2 ?d3 ?d4 ?d5 ?_)
            case d1 => exact cell_one_new' _ _ _ (by simp)
            case d2 => intro u hu; simp at hu; subst hu; rfl
            case d3 => unfold maxLen; omega
            case d4 => omega
            case d5 => simp; omega
            intro v' w1 hown' hgrow _
            have hb1 := ((hb.alloc hsz _).alloc (by simp; omega) _).grown hgrow (by simp; omega) (fun j hj => (hown.lt j hj).1)
            clear hown hgrow i0 i1 i2 hpr
            go_wp2
            go_roundw
            case rel => exact ⟨k + 1, by omega, by go_num, by simpa [entsL] using hown', hb1⟩
            case measure => simp [intOf]; omega
          · have hkn : k = G.L := by omega
            subst hkn
            go_wp2
            go_ret
            exact ⟨_, rfl, hown, hb⟩
      · have hL : Hid (ents G = entsL G 0) := by unfold ents; rw [hla]; rfl
        have hlt : ¬ (0 < G.L) := by omega
        clear hla
        go_wp2
        refine wp_loop_rounds 1 ?_
        rw [rounds_succ]
        go_wp2
        go_ret
        exact ⟨_, rfl, by rw [hL.out]; exact hown0, hb⟩
end Go.Proofs.Ybulkccoo
