import Derived.Test.YbulkccooQ14
import Derived.Deep.CutBlock
namespace Go.Proofs.Ybulkccoo
open Go.RowKit
namespace Qx

set_option maxHeartbeats 4000000 in
set_option maxRecDepth 10000 in
theorem law_any (a0 a1 a2 a3 a4 : Int) (lz closed ta : Bool) (b0 : 0 ≤ a0 ∧ a0 ≤ 255) (b1 : 0 ≤ a1 ∧ a1 ≤ 255) (b2 : 0 ≤ a2 ∧ a2 ≤ 255) (b3 : 0 ≤ a3 ∧ a3 ≤ 65535) (b4 : 0 ≤ a4 ∧ a4 ≤ 65535) (w : World) :
    Calls Yba.prog 3 #[.int .u8 a0, .int .u8 a1, .int .u8 a2, .int .u16 a3, .int .u16 a4, .bool lz, .bool closed, .bool ta] w fun e w' => e = .returned (.bool true) ∧ Below w.heap.size w w' := by
  obtain ⟨k, hk⟩ : ∃ k, a0 % 4 = k := ⟨_, rfl⟩
  obtain ⟨s, hs⟩ : ∃ s, a1 % 3 = s := ⟨_, rfl⟩
  obtain ⟨f, hf⟩ : ∃ f, a2 % 3 = f := ⟨_, rfl⟩
  obtain ⟨m, hm⟩ : ∃ m : Nat, a3 % 1000 = (m : Int) := ⟨(a3 % 1000).toNat, by omega⟩
  obtain ⟨n, hn⟩ : ∃ n : Nat, a4 % 1000 = (n : Int) := ⟨(a4 % 1000).toNat, by omega⟩
  have hkc : k = 0 ∨ k = 1 ∨ k = 2 ∨ k = 3 := by omega
  have hsc : s = 0 ∨ s = 1 ∨ s = 2 := by omega
  have hfc : f = 0 ∨ f = 1 ∨ f = 2 := by omega
  have hm1 : m < 1000 := by omega
  have hn1 : n < 1000 := by omega
  have hql := qlen3 s f n closed
  have hdl := digs_len m
  have hdl2 := digs_len n
  go_enter Yba.func3, Yba.ntmps3
  go_upto_block 0 with fail
  rw [hk, hs, hf, hm, hn]
  clear hk hs hf hm hn b0 b1 b2 b3 b4
  go_cut [22, 23, 24, 25, 26] (fun q mn mx pr er wc => Own w wc q (qL k s f m n closed) ∧ mn = .int .i64 (wMinK k m) ∧ mx = .int .i64 (wMaxK k f m n) ∧ pr = .int .u8 (wPrefK k f) ∧ er = wErrK k f m n closed lz ta)
  case first =>
    rcases hkc with rfl | rfl | rfl | rfl
    · as_aux_lemma =>
      go_wp2
      go_meet
      case rel => exact ⟨Own.new (Below.refl _ _) [42] _ rfl (by simp), rfl, rfl, rfl, rfl⟩
    · as_aux_lemma =>
      go_wp2
      go_meet
      case rel => exact ⟨Own.new (Below.refl _ _) [43] _ rfl (by simp), rfl, rfl, rfl, rfl⟩
    · as_aux_lemma =>
      go_wp2
      go_meet
      case rel => exact ⟨Own.new (Below.refl _ _) [63] _ rfl (by simp), rfl, rfl, rfl, rfl⟩
    · go_upto_if 51 with fail
      go_cut [22] (fun q wc => Own w wc q (pre s))
      case first =>
        as_aux_lemma =>
        by_cases h2 : s = 2
        · subst h2
          go_wp2
          go_meet
          case rel => exact Own.new (Below.refl _ _) [92, 123] _ rfl (by simp)
        · have h2' : (s == 2) = false := by simp [h2]
          have HP : Hid (pre s = [123]) := if_neg h2
          go_wp2
          go_meet
          case rel => rw [HP.out]; exact Own.new (Below.refl _ _) [123] _ rfl (by simp)
      case rest =>
        go_wp2_with fail
        refine (digits_any m hm1 wc).mono ?_
        rintro e w1 ⟨g1, c1, rfl, hd, hb1⟩
        have hO1 := hcut.later hb1
        have hnews := owned_news hd
        clear hb1 hcut hd
        go_upto_block 1 with (at_builtin; refine wp_own_append rfl _ _ rfl hO1 rfl ⟨g1, 0, none⟩ c1 (digs m) rfl hnews hdl.1 (by omega) ?_; intro v2 w2 hO2)
        clear hO1 hnews
        go_cut [22, 24, 25] (fun q mx pr wc => Own w wc q (pre s ++ (digs m ++ mid f n)) ∧ mx = .int .i64 (wMax f m n) ∧ pr = .int .u8 (wPref f))
        case first =>
          as_aux_lemma =>
          have hl1 : (pre s ++ digs m).length ≤ 5 := by simp; omega
          rcases hfc with rfl | rfl | rfl
          · go_wp2
            go_meet
            case rel => exact ⟨by simpa [mid] using hO2, rfl, rfl⟩
          · go_wp2_with (at_builtin; refine wp_own_append rfl _ _ rfl (hO2.alloc _) rfl ⟨_, 0, none⟩ 1 [44] rfl (lit_new _ [44] _ rfl) (by decide) (by simp only [List.length_singleton]; omega) ?_; intro v3 w3 hO3)
            go_meet
            case rel => exact ⟨by simpa [mid] using hO3, rfl, rfl⟩
          · go_wp2_with (at_builtin; refine wp_own_append rfl _ _ rfl (hO2.alloc _) rfl ⟨_, 0, none⟩ 1 [44] rfl (lit_new _ [44] _ rfl) (by decide) (by simp only [List.length_singleton]; omega) ?_; intro v3 w3 hO3)
            refine (digits_any n hn1 w3).mono ?_
            rintro e w4 ⟨g4, c4, rfl, hd4, hb4⟩
            have hO4 := hO3.later hb4
            have hnews4 := owned_news hd4
            have hl2 : (pre s ++ digs m ++ [44]).length ≤ 6 := by simp; omega
            clear hb4 hO3 hd4
            go_wp2_with (at_builtin; refine wp_own_append rfl _ _ rfl hO4 rfl ⟨g4, 0, none⟩ c4 (digs n) rfl hnews4 hdl2.1 (by omega) ?_; intro v5 w5 hO5)
            go_meet
            case rel => exact ⟨by simpa [mid] using hO5, rfl, rfl⟩
        case rest =>
          obtain ⟨hO3, rfl, rfl⟩ := hcut
          go_upto_if 76 with fail
          go_cut [22] (fun q wc => Own w wc q (qL 3 s f m n closed))
          case first =>
            as_aux_lemma =>
            have hl1 : (pre s ++ (digs m ++ mid f n)).length ≤ 9 := by simp; omega
            cases closed
            · go_wp2
              go_meet
              case rel => exact (by simpa [qL, clo] using hO3)
            · by_cases h2 : s = 2
              · subst h2
                go_wp2_with (at_builtin; refine wp_own_append rfl _ _ rfl (hO3.alloc _) rfl ⟨_, 0, none⟩ 2 [92, 125] rfl (lit_new _ [92, 125] _ rfl) (by decide) (by simp only [List.length_cons, List.length_nil]; omega) ?_; intro v4 w4 hO4)
                go_meet
                case rel => exact (by simpa [qL, clo] using hO4)
              · have h2' : (s == 2) = false := by simp [h2]
                have HC : Hid (clo s true = [125]) := if_neg h2
                go_wp2_with (at_builtin; refine wp_own_append rfl _ _ rfl (hO3.alloc _) rfl ⟨_, 0, none⟩ 1 [125] rfl (lit_new _ [125] _ rfl) (by decide) (by simp only [List.length_singleton]; omega) ?_; intro v4 w4 hO4)
                go_meet
                case rel => exact (by simpa [qL, HC.out] using hO4)
          case rest =>
            by_cases h1 : 255 < m
            · have h1' : (255 : Int) < (m : Int) := by omega
              as_aux_lemma =>
                go_wp2
                go_meet
                case rel => exact ⟨hcut, rfl, rfl, rfl, by simp [wErrK, wErr, h1, eCount]⟩
            · have h1' : ¬ (255 : Int) < (m : Int) := by omega
              by_cases h2 : f = 2
              · subst h2
                by_cases h3 : 255 < n
                · have h3' : (255 : Int) < (n : Int) := by omega
                  as_aux_lemma =>
                    go_wp2
                    go_meet
                    case rel => exact ⟨hcut, rfl, rfl, rfl, by simp [wErrK, wErr, h1, h3, eCount]⟩
                · have h3' : ¬ (255 : Int) < (n : Int) := by omega
                  cases closed
                  · cases lz
                    · cases ta
                      · as_aux_lemma =>
                          go_wp2
                          go_meet
                          case rel => exact ⟨hcut, rfl, rfl, rfl, by simp [wErrK, wErr, h1, h3, eBraces]⟩
                      · as_aux_lemma =>
                          go_wp2
                          go_meet
                          case rel => exact ⟨hcut, rfl, rfl, rfl, by simp [wErrK, wErr, h1, h3, eCount]⟩
                    · as_aux_lemma =>
                        go_wp2
                        go_meet
                        case rel => exact ⟨hcut, rfl, rfl, rfl, by simp [wErrK, wErr, h1, h3, eCount]⟩
                  · by_cases h4 : n < m
                    · have h4' : (n : Int) < (m : Int) := by omega
                      as_aux_lemma =>
                        go_wp2
                        go_meet
                        case rel => exact ⟨hcut, rfl, rfl, rfl, by simp [wErrK, wErr, h1, h3, h4, eCount]⟩
                    · have h4' : ¬ (n : Int) < (m : Int) := by omega
                      as_aux_lemma =>
                        go_wp2
                        go_meet
                        case rel => exact ⟨hcut, rfl, rfl, rfl, by simp [wErrK, wErr, h1, h3, h4]⟩
              · have h2' : (f == 2) = false := by simp [h2]
                cases closed
                · cases lz
                  · cases ta
                    · as_aux_lemma =>
                        go_wp2
                        go_meet
                        case rel => exact ⟨hcut, rfl, rfl, rfl, by simp [wErrK, wErr, h1, h2, eBraces]⟩
                    · as_aux_lemma =>
                        go_wp2
                        go_meet
                        case rel => exact ⟨hcut, rfl, rfl, rfl, by simp [wErrK, wErr, h1, h2, eCount]⟩
                  · as_aux_lemma =>
                      go_wp2
                      go_meet
                      case rel => exact ⟨hcut, rfl, rfl, rfl, by simp [wErrK, wErr, h1, h2, eCount]⟩
                · as_aux_lemma =>
                    go_wp2
                    go_meet
                    case rel => exact ⟨hcut, rfl, rfl, rfl, by simp [wErrK, wErr, h1, h2]⟩
  case rest =>
    have hqb := qL_len k s f m n closed
    obtain ⟨Q, hQ⟩ : ∃ Q, qL k s f m n closed = Q := ⟨_, rfl⟩
    rw [hQ] at hcut hqb
    obtain ⟨⟨g, cap, rfl, hown, hb⟩, rfl, rfl, rfl, rfl⟩ := hcut
    have hnews := owned_news (own_later hown ((Below.refl _ _).alloc (Nat.le_refl _) (.cells (madeCells #[.int .i32 0] (Q.length + 2)) 21)))
    have hmk := mk24p Q.length (by omega)
    go_upto_if 138 with (at_builtin; refine wp_own_append rfl _ _ rfl (Own.made hb (Q.length + 2) (by omega)) rfl ⟨g, 0, none⟩ cap Q rfl hnews hqb.1 (by simp; omega) ?_; intro v3 w3 hO3)
    simp only [List.nil_append] at hO3
    clear hmk hnews hown hb
    go_cut [27] (fun t wc => Own w wc t (Q ++ (if lz = true then [63] else [])))
    case first =>
      as_aux_lemma =>
        cases lz
        · go_wp2
          go_meet
          case rel => exact (by simpa using hO3)
        · go_wp2_with (at_builtin; refine wp_own_append rfl _ _ rfl (hO3.alloc _) rfl ⟨_, 0, none⟩ 1 [63] rfl (lit_new _ [63] _ rfl) (by decide) (by simp only [List.length_singleton]; omega) ?_; intro v4 w4 hO4)
          go_meet
          case rel => exact (by simpa using hO4)
    case rest =>
      clear hO3
      have hql2 : (Q ++ (if lz = true then [63] else [] : List Int)).length ≤ 21 := by cases lz <;> simp <;> omega
      go_upto_if 142 with fail
      go_cut [27] (fun t wc => Own w wc t (Q ++ tl lz ta))
      case first =>
        as_aux_lemma =>
          cases ta
          · go_wp2
            go_meet
            case rel => exact (by simpa [tl] using hcut)
          · go_wp2_with (at_builtin; refine wp_own_append rfl _ _ rfl (hcut.alloc _) rfl ⟨_, 0, none⟩ 1 [97] rfl (lit_new _ [97] _ rfl) (by decide) (by simp only [List.length_singleton]; omega) ?_; intro v4 w4 hO4)
            go_meet
            case rel => exact (by simpa [tl] using hO4)
      case rest =>
        have htl := tl_len2 lz ta
        obtain ⟨T, hT⟩ : ∃ T, Q ++ tl lz ta = T := ⟨_, rfl⟩
        have hTl : T.length ≤ 22 := by rw [← hT]; simp; omega
        rw [hT] at hcut
        obtain ⟨gt, ct, rfl, hownT, hbT⟩ := hcut
        go_wp2_with fail
        obtain ⟨W1, hW1, hps, hat1, hb1⟩ := after_boxes (s := s) hownT (by omega) hbT
        rw [← hW1]
        obtain ⟨hE, hG⟩ := rep_all k s f hkc hsc hfc m n hm1 hn1 closed lz ta T (by rw [hQ, hT]) wc.heap.size gt ct (some ⟨wc.heap.size + 1, 0, none⟩) W1 hps
        clear hps hownT
        rcases wErrK_form k f m n closed lz ta with h0 | ⟨E, h0⟩
        · refine (hG h0).mono ?_
          clear hE hG
          rintro e w2 ⟨rb, ab, rfl, hnd, hat, hps2, hgr⟩
          rw [h0]
          have hat2 : w2.cell? ⟨wc.heap.size + 1, 0, none⟩ = some (.int .u8 1) := (hgr.cell_far _ (World.block_lt_of_cell? W1 _ hat1) (by simp)).trans hat1
          have hb2 : Below w.heap.size w w2 := hb1.grown hgr hb1.size (fun j hj => by cases hj; exact hbT.size)
          have p1 := hps2.c1
          have n0 := hnd.c0
          have n5 := hnd.c5
          have n6 := hnd.c6
          have n7 := hnd.c7
          have n8 := hnd.c8
          clear hps2 hnd hgr hat1 hb1 hW1 hbT hql hdl hdl2 h0 hm1 hn1
          obtain ⟨pr, hpr⟩ : ∃ pr, wPrefK k f = pr := ⟨_, rfl⟩
          rw [hpr] at n8 ⊢
          rw [hQ] at p1
          clear hpr hQ hkc hfc
          have hpe := eql_atom ⟨wc.heap.size + 1, 0, none⟩
          obtain ⟨P, hP⟩ : ∃ P, fPref s lz pr = P := ⟨_, rfl⟩
          obtain ⟨PP, hPP⟩ : ∃ PP : Int, ((fPos s lz Q.length : Nat) : Int) = PP := ⟨_, rfl⟩
          rw [hP] at n8
          rw [hPP] at p1
          by_cases hs0 : s = 0
          · subst hs0
            go_upto_if 173 with fail
            go_cut [25, 32] (fun a b w' => w' = w2 ∧ a = .int .u8 P ∧ b = .int .i64 PP)
            case first =>
              cases lz
              · go_wp2
                go_meet
                case rel => exact ⟨rfl, by simp [← hP, fPref], by simp [← hPP, fPos]⟩
              · by_cases hp0 : pr = 0
                · subst hp0
                  go_wp2
                  go_meet
                  case rel => exact ⟨rfl, by simp [← hP, fPref], by simp [← hPP, fPos]⟩
                · have hp0' : (pr == 0) = false := by simp [hp0]
                  go_wp2
                  go_meet
                  case rel => exact ⟨rfl, by simp [← hP, fPref, hp0], by simp [← hPP, fPos]⟩
            case rest =>
              obtain ⟨rfl, rfl, rfl⟩ := hcut
              as_aux_lemma =>
                go_wp2
                go_ret
                exact ⟨rfl, hb2⟩
          · have hs0' : (s == 0) = false := by simp [hs0]
            have e1 : P = pr := by simp [← hP, fPref, hs0]
            have e2 : PP = (Q.length : Int) := by simp [← hPP, fPos, hs0]
            subst e1
            subst e2
            as_aux_lemma =>
              go_wp2
              go_ret
              exact ⟨rfl, hb2⟩
        · refine (hE E h0).mono ?_
          clear hE hG
          rintro e w2 ⟨rfl, hgr⟩
          rw [h0]
          have heq := fun w => run_eql_iface_str w E
          have hb2 : Below w.heap.size w w2 := hb1.grown hgr hb1.size (fun j hj => by cases hj; exact hbT.size)
          clear hgr
          as_aux_lemma =>
            go_wp2
            go_ret
            exact ⟨rfl, hb2⟩
end Qx
end Go.Proofs.Ybulkccoo
