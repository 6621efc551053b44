import Derived.Test.YbulkccooQ5
namespace Go.Proofs.Ybulkccoo
open Go.RowKit
namespace Qx

/-- What stands behind the first number: nothing (f = 0), a comma, a comma and a second number; q: the place behind; mx: the greatest count; pr: the preference. -/
structure Mid (L : Nat) (ch : Nat → Int) (p1 : Nat) (mn : Int) (q : Nat) (mx pr pr0 : Int) : Prop where
  way : (peek L ch p1 44 = false ∧ q = p1 ∧ mx = mn ∧ pr = 0) ∨
    (p1 < L ∧ ch p1 = 44 ∧ dig L ch (p1 + 1) = false ∧ q = p1 + 1 ∧ mx = -1 ∧ pr = pr0) ∨
    (p1 < L ∧ ch p1 = 44 ∧ ∃ (k2 : Nat) (val2 : Nat → Int), 0 < k2 ∧ Num L ch (p1 + 1) k2 val2 ∧ val2 k2 ≤ 255 ∧ q = p1 + 1 + k2 ∧ mx = val2 k2 ∧ pr = pr0)

theorem peek_yes {L : Nat} {ch : Nat → Int} {p : Nat} {c : Int} (h : p < L) (hc : ch p = c) : peek L ch p c = true := by simp [peek, h, hc]

/-- What 'counts' comes to. -/
def CountsPost (pb sb L cap : Nat) (ch : Nat → Int) (syn : Int) (rb : Nat) (sub : Value) (mn mx pr : Int) (q q' : Nat) (ok : Bool) (w : World) (e : Ending) (w' : World) : Prop :=
  Two pb rb w w' ∧
      ((q = L ∧ e = .returned eBraces) ∨ (q < L ∧ (ok = false ∨ (0 ≤ mx ∧ mx < mn)) ∧ e = .returned eCount) ∨
        (q < L ∧ ok = true ∧ ¬ (0 ≤ mx ∧ mx < mn) ∧ e = .returned .nilIface ∧ Ps w' pb sb L cap ch q' syn ∧ Nd w' rb sub mn mx pr))

set_option maxHeartbeats 2000000 in
set_option maxRecDepth 10000 in
theorem counts_main (w : World) (pb sb L cap : Nat) (ch : Nat → Int) (pos : Nat) (syn : Int) (h : Ps w pb sb L cap ch pos syn) (rb : Nat) (sub : Value) (mn0 mx0 pr0 : Int) (hr : Nd w rb sub mn0 mx0 pr0) (hrp : rb ≠ pb) (hrs : rb ≠ sb)
    (k1 : Nat) (val1 : Nat → Int) (hn : Num L ch pos k1 val1) (hv : val1 k1 ≤ 255) (q : Nat) (mx pr : Int) (hM : Mid L ch (pos + k1) (val1 k1) q mx pr pr0) (hqL : q ≤ L)
    (ok : Bool) (q' : Nat) (hsp : q < L → ∀ w1, Ps w1 pb sb L cap ch q syn → Calls Yba.prog 17 #[.pointer (some ⟨pb, 0, none⟩), endS syn] w1 fun e w' => e = .returned (.bool ok) ∧ Ps w' pb sb L cap ch q' syn ∧ w1.grownBy w' (some pb)) :
    Calls Yba.prog 10 #[.pointer (some ⟨pb, 0, none⟩), .pointer (some ⟨rb, 0, none⟩)] w fun e w' => CountsPost pb sb L cap ch syn rb sub (val1 k1) mx pr q q' ok w e w' := by
  have hc := count_any w pb sb L cap ch pos syn h k1 val1 hn
  rw [show cntOut (val1 k1) = .tuple #[.int .i64 (val1 k1), .nilIface] from if_pos hv] at hc
  have hvb := hn.bd k1 (Nat.le_refl _)
  have hle := h.le
  have hc1 := h.cap1
  obtain ⟨mn, hmn⟩ : ∃ mn, mn = val1 k1 := ⟨_, rfl⟩
  rw [← hmn] at hc hv hvb hM ⊢
  obtain ⟨p1, hp1⟩ : ∃ p1, p1 = pos + k1 := ⟨_, rfl⟩
  rw [← hp1] at hc hM
  clear hmn hp1 hn
  go_enter Yba.func10, Yba.ntmps10
  go_wp2_with fail
  refine hc.mono ?_
  clear hc
  rintro e w1 ⟨rfl, hp, hg⟩
  have hT : Two pb rb w w1 := Two.of_grown hg
  have hN := hr.grown hg hrp
  clear hg h hr
  go_wp2_with fail
  refine (skipBlank_any w1 pb sb L cap ch p1 syn hp).mono ?_
  rintro e w2 ⟨rfl, n2, hw2⟩
  replace hp : Ps w2 pb sb L cap ch p1 syn := by rw [hw2]; exact hp.draws n2
  replace hN : Nd w2 rb sub mn0 mx0 pr0 := by rw [hw2]; exact hN.draws n2
  replace hT : Two pb rb w w2 := by rw [hw2]; exact hT.trans (Two.draws _ _)
  clear hw2
  go_wp2_with fail
  refine (peekIs_any w2 pb sb L cap ch p1 syn hp 44).mono ?_
  rintro e w3 ⟨rfl, n3, hw3⟩
  replace hp : Ps w3 pb sb L cap ch p1 syn := by rw [hw3]; exact hp.draws n3
  replace hN : Nd w3 rb sub mn0 mx0 pr0 := by rw [hw3]; exact hN.draws n3
  replace hT : Two pb rb w w3 := by rw [hw3]; exact hT.trans (Two.draws _ _)
  clear hw3
  go_upto_if 21 with fail
  go_cut [7] (fun v wc => v = .int .i64 mx ∧ Ps wc pb sb L cap ch q syn ∧ Nd wc rb sub mn0 mx0 pr ∧ Two pb rb w wc)
  case first =>
    clear hsp
    rcases hM.way with ⟨hpk, rfl, rfl, rfl⟩ | ⟨hl1, hc44, hdn, rfl, rfl, rfl⟩ | ⟨hl1, hc44, k2, val2, hk2, hn2, hv2, rfl, rfl, rfl⟩
    · rw [hpk]
      have g8 := hN.c8
      have f8 := hN.f8
      go_wp2
      go_meet
      case rel => exact ⟨rfl, hp.setR hrp hrs _ _, hN.setPref 0, hT.trans (Two.setR _ _ _)⟩
    · rw [peek_yes hl1 hc44]
      have c1 := hp.c1
      have f1 := hp.f1
      go_wp2_with fail
      have hp4 := hp.move (pos' := p1 + 1) (x := (p1 : Int) + 1) (by omega) (by omega)
      have hN4 := hN.setP hrp 1 (.int .i64 ((p1 : Int) + 1))
      have hT4 := hT.trans (Two.setP w3 1 (.int .i64 ((p1 : Int) + 1)))
      refine (skipBlank_any _ pb sb L cap ch (p1 + 1) syn hp4).mono ?_
      rintro e w4 ⟨rfl, n4, hw4⟩
      replace hp4 : Ps w4 pb sb L cap ch (p1 + 1) syn := by rw [hw4]; exact hp4.draws n4
      replace hN4 : Nd w4 rb sub mn0 mx0 pr := by rw [hw4]; exact hN4.draws n4
      replace hT4 : Two pb rb w w4 := by rw [hw4]; exact hT4.trans (Two.draws _ _)
      clear hw4 hp hN hT c1 f1
      have d0 := hp4.c0
      have d1 := hp4.c1
      rw [show ((p1 + 1 : Nat) : Int) = (p1 : Int) + 1 by omega] at d1
      by_cases hl2 : p1 + 1 < L
      · have hnd : isDig (ch (p1 + 1)) = false := by simpa [dig, hl2] using hdn
        have cc := hp4.chs (p1 + 1) hl2
        have h0 : (0 : Int) ≤ (p1 : Int) + 1 := by omega
        have h1 : (p1 : Int) + 1 < (L : Int) := by omega
        have hq := isDigit_any (ch (p1 + 1))
        rw [hnd] at hq
        go_wp2_with fail
        go_quiet ((go_at_call 16; exact Calls.quiet_of_same (hq _)))
        go_wp2
        go_meet
        case rel => exact ⟨rfl, hp4.draws _, hN4.draws _, hT4.trans (Two.draws _ _)⟩
      · have h1 : decide ((p1 : Int) + 1 < (L : Int)) = false := by simp; omega
        go_wp2_with fail
        go_quiet (fail)
        go_wp2
        go_meet
        case rel => exact ⟨rfl, hp4.draws _, hN4.draws _, hT4.trans (Two.draws _ _)⟩
    · rw [peek_yes hl1 hc44]
      have c1 := hp.c1
      have f1 := hp.f1
      go_wp2_with fail
      have hp4 := hp.move (pos' := p1 + 1) (x := (p1 : Int) + 1) (by omega) (by omega)
      have hN4 := hN.setP hrp 1 (.int .i64 ((p1 : Int) + 1))
      have hT4 := hT.trans (Two.setP w3 1 (.int .i64 ((p1 : Int) + 1)))
      refine (skipBlank_any _ pb sb L cap ch (p1 + 1) syn hp4).mono ?_
      rintro e w4 ⟨rfl, n4, hw4⟩
      replace hp4 : Ps w4 pb sb L cap ch (p1 + 1) syn := by rw [hw4]; exact hp4.draws n4
      replace hN4 : Nd w4 rb sub mn0 mx0 pr := by rw [hw4]; exact hN4.draws n4
      replace hT4 : Two pb rb w w4 := by rw [hw4]; exact hT4.trans (Two.draws _ _)
      clear hw4 hp hN hT c1 f1
      have d0 := hp4.c0
      have d1 := hp4.c1
      rw [show ((p1 + 1 : Nat) : Int) = (p1 : Int) + 1 by omega] at d1
      have hyes := hn2.yes hk2
      have hk2L := hn2.le
      have hl2 : p1 + 1 < L := by omega
      have hnd : isDig (ch (p1 + 1)) = true := by simpa [dig, hl2] using hyes
      have cc := hp4.chs (p1 + 1) hl2
      have h0 : (0 : Int) ≤ (p1 : Int) + 1 := by omega
      have h1 : (p1 : Int) + 1 < (L : Int) := by omega
      have hq := isDigit_any (ch (p1 + 1))
      rw [hnd] at hq
      go_wp2_with fail
      go_quiet ((go_at_call 16; exact Calls.quiet_of_same (hq _)))
      clear hq cc d0 d1
      have hc2 := count_any (w4.drewN nq) pb sb L cap ch (p1 + 1) syn (hp4.draws nq) k2 val2 hn2
      rw [show cntOut (val2 k2) = .tuple #[.int .i64 (val2 k2), .nilIface] from if_pos hv2] at hc2
      go_wp2_with fail
      refine hc2.mono ?_
      clear hc2
      rintro e w5 ⟨rfl, hp5, hg5⟩
      have hN5 := (hN4.draws nq).grown hg5 hrp
      have hT5 := (hT4.trans (Two.draws w4 nq)).trans (Two.of_grown hg5)
      go_wp2
      go_meet
      case rel => exact ⟨rfl, hp5, hN5, hT5⟩
  case rest =>
    obtain ⟨rfl, hp4, hN4, hT4⟩ := hcut
    clear hp hN hT hM
    go_wp2_with fail
    refine (skipBlank_any _ pb sb L cap ch q syn hp4).mono ?_
    rintro e w5 ⟨rfl, n5, hw5⟩
    replace hp4 : Ps w5 pb sb L cap ch q syn := by rw [hw5]; exact hp4.draws n5
    replace hN4 : Nd w5 rb sub mn0 mx0 pr := by rw [hw5]; exact hN4.draws n5
    replace hT4 : Two pb rb w w5 := by rw [hw5]; exact hT4.trans (Two.draws _ _)
    clear hw5
    have c2 := hp4.c2
    go_upto_if 71 with fail
    go_cut [8] (fun v wc => v = endS syn ∧ w5 = wc)
    case first =>
      clear hsp
      by_cases hs2 : syn = 2
      · have hs2' : (syn == 2) = true := by simp [hs2]
        have HE : Hid (endS syn = .string { data := #[92, 125] }) := if_pos hs2
        clear hs2
        go_wp2
        go_meet
        case rel => exact ⟨by rw [HE.out], rfl⟩
      · have hs2' : (syn == 2) = false := by simp [hs2]
        have HE : Hid (endS syn = .string { data := #[125] }) := if_neg hs2
        clear hs2
        go_wp2
        go_meet
        case rel => exact ⟨by rw [HE.out], rfl⟩
    case rest =>
      obtain ⟨rfl, rfl⟩ := hcut
      have c0 := hp4.c0
      have c1 := hp4.c1
      by_cases hqe : q < L
      · have hd : decide ((L : Int) ≤ (q : Int)) = false := by simp; omega
        have hsp' := hsp hqe
        go_wp2_with fail
        go_quiet (fail)
        go_wp2_with fail
        refine (hsp' _ (hp4.draws nq)).mono ?_
        clear hsp hsp'
        rintro e w6 ⟨rfl, hp6, hg6⟩
        have hN6 := (hN4.draws nq).grown hg6 hrp
        have hT6 := (hT4.trans (Two.draws w5 nq)).trans (Two.of_grown hg6)
        clear hg6 hN4 hT4 hp4 c0 c1 c2
        cases ok
        · go_wp2
          go_ret
          unfold CountsPost; exact ⟨hT6, .inr (.inl ⟨hqe, .inl rfl, rfl⟩)⟩
        · by_cases hm0 : 0 ≤ mx
          · have hm0' : decide (0 ≤ mx) = true := by simpa using hm0
            by_cases hmm : mx < mn
            · go_wp2
              go_ret
              unfold CountsPost; exact ⟨hT6, .inr (.inl ⟨hqe, .inr ⟨hm0, hmm⟩, rfl⟩)⟩
            · have g6 := hN6.c6
              have g7 := hN6.c7
              have f6 := hN6.f6
              have f7 := hN6.f7
              go_wp2
              go_ret
              unfold CountsPost; exact ⟨(hT6.trans (Two.setR _ _ _)).trans (Two.setR _ _ _), .inr (.inr ⟨hqe, rfl, by omega, rfl, (hp6.setR hrp hrs _ _).setR hrp hrs _ _, (hN6.setMin _).setMax _⟩)⟩
          · have hm0' : decide (0 ≤ mx) = false := by simpa using hm0
            have g6 := hN6.c6
            have g7 := hN6.c7
            have f6 := hN6.f6
            have f7 := hN6.f7
            go_wp2
            go_ret
            unfold CountsPost; exact ⟨(hT6.trans (Two.setR _ _ _)).trans (Two.setR _ _ _), .inr (.inr ⟨hqe, rfl, by omega, rfl, (hp6.setR hrp hrs _ _).setR hrp hrs _ _, (hN6.setMin _).setMax _⟩)⟩
      · have hd : decide ((L : Int) ≤ (q : Int)) = true := by simp; omega
        clear hsp
        go_wp2_with fail
        go_quiet (fail)
        go_wp2
        go_ret
        unfold CountsPost; exact ⟨hT4.trans (Two.draws _ _), .inl ⟨by omega, rfl⟩⟩
set_option maxHeartbeats 2000000 in
set_option maxRecDepth 10000 in
/-- The second number is too great. -/
theorem counts_bad2 (w : World) (pb sb L cap : Nat) (ch : Nat → Int) (pos : Nat) (syn : Int) (h : Ps w pb sb L cap ch pos syn) (rb : Nat)
    (k1 : Nat) (val1 : Nat → Int) (hn : Num L ch pos k1 val1) (hv : val1 k1 ≤ 255) (hl1 : pos + k1 < L) (hc44 : ch (pos + k1) = 44) (k2 : Nat) (val2 : Nat → Int) (hk2 : 0 < k2) (hn2 : Num L ch (pos + k1 + 1) k2 val2) (hv2 : 255 < val2 k2) :
    Calls Yba.prog 10 #[.pointer (some ⟨pb, 0, none⟩), .pointer (some ⟨rb, 0, none⟩)] w fun e w' => e = .returned eCount ∧ Two pb rb w w' := by
  have hc := count_any w pb sb L cap ch pos syn h k1 val1 hn
  rw [show cntOut (val1 k1) = .tuple #[.int .i64 (val1 k1), .nilIface] from if_pos hv] at hc
  have hvb := hn.bd k1 (Nat.le_refl _)
  have hle := h.le
  have hc1 := h.cap1
  obtain ⟨mn, hmn⟩ : ∃ mn, mn = val1 k1 := ⟨_, rfl⟩
  rw [← hmn] at hc hv hvb
  obtain ⟨p1, hp1⟩ : ∃ p1, p1 = pos + k1 := ⟨_, rfl⟩
  rw [← hp1] at hc hl1 hc44 hn2
  clear hmn hp1 hn
  go_enter Yba.func10, Yba.ntmps10
  go_wp2_with fail
  refine hc.mono ?_
  clear hc
  rintro e w1 ⟨rfl, hp, hg⟩
  have hT : Two pb rb w w1 := Two.of_grown hg
  clear hg h
  go_wp2_with fail
  refine (skipBlank_any w1 pb sb L cap ch p1 syn hp).mono ?_
  rintro e w2 ⟨rfl, n2, hw2⟩
  replace hp : Ps w2 pb sb L cap ch p1 syn := by rw [hw2]; exact hp.draws n2
  replace hT : Two pb rb w w2 := by rw [hw2]; exact hT.trans (Two.draws _ _)
  clear hw2
  go_wp2_with fail
  refine (peekIs_any w2 pb sb L cap ch p1 syn hp 44).mono ?_
  rintro e w3 ⟨rfl, n3, hw3⟩
  replace hp : Ps w3 pb sb L cap ch p1 syn := by rw [hw3]; exact hp.draws n3
  replace hT : Two pb rb w w3 := by rw [hw3]; exact hT.trans (Two.draws _ _)
  clear hw3
  rw [peek_yes hl1 hc44]
  have c1 := hp.c1
  have f1 := hp.f1
  go_wp2_with fail
  have hp4 := hp.move (pos' := p1 + 1) (x := (p1 : Int) + 1) (by omega) (by omega)
  have hT4 := hT.trans (Two.setP w3 1 (.int .i64 ((p1 : Int) + 1)))
  refine (skipBlank_any _ pb sb L cap ch (p1 + 1) syn hp4).mono ?_
  rintro e w4 ⟨rfl, n4, hw4⟩
  replace hp4 : Ps w4 pb sb L cap ch (p1 + 1) syn := by rw [hw4]; exact hp4.draws n4
  replace hT4 : Two pb rb w w4 := by rw [hw4]; exact hT4.trans (Two.draws _ _)
  clear hw4 hp hT c1 f1
  have d0 := hp4.c0
  have d1 := hp4.c1
  rw [show ((p1 + 1 : Nat) : Int) = (p1 : Int) + 1 by omega] at d1
  have hyes := hn2.yes hk2
  have hk2L := hn2.le
  have hl2 : p1 + 1 < L := by omega
  have hnd : isDig (ch (p1 + 1)) = true := by simpa [dig, hl2] using hyes
  have cc := hp4.chs (p1 + 1) hl2
  have h0 : (0 : Int) ≤ (p1 : Int) + 1 := by omega
  have h1 : (p1 : Int) + 1 < (L : Int) := by omega
  have hq := isDigit_any (ch (p1 + 1))
  rw [hnd] at hq
  go_wp2_with fail
  go_quiet ((go_at_call 16; exact Calls.quiet_of_same (hq _)))
  clear hq cc d0 d1
  have hc2 := count_any (w4.drewN nq) pb sb L cap ch (p1 + 1) syn (hp4.draws nq) k2 val2 hn2
  rw [show cntOut (val2 k2) = .tuple #[.int .i64 0, eCount] from if_neg (by omega)] at hc2
  unfold eCount at hc2
  go_wp2_with fail
  refine hc2.mono ?_
  clear hc2
  rintro e w5 ⟨rfl, hp5, hg5⟩
  have hT5 := (hT4.trans (Two.draws w4 nq)).trans (Two.of_grown hg5)
  go_wp2
  go_ret
  exact ⟨rfl, hT5⟩

end Qx
end Go.Proofs.Ybulkccoo
