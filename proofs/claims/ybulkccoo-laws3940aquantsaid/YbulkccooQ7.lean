import Derived.Test.YbulkccooQ6
namespace Go.Proofs.Ybulkccoo
open Go.RowKit
namespace Qx

/-- What 'repeat' comes to where it does not refuse. -/
def RepGood (pb sb L cap : Nat) (ch : Nat → Int) (syn : Int) (atom : Value) (mn mx pr : Int) (pos : Nat) (w : World) (e : Ending) (w' : World) : Prop :=
  ∃ rb ab : Nat, e = .returned (.tuple #[.pointer (some ⟨rb, 0, none⟩), .nilIface]) ∧ Nd w' rb (.slice (some ⟨ab, 0, none⟩) 1 1) mn mx pr ∧ w'.cell? ⟨ab, 0, none⟩ = some atom ∧ Ps w' pb sb L cap ch pos syn ∧ w.grownBy w' (some pb)

/-- The node's cells as they are laid. -/
def nodeCells (ab : Nat) : Array Value := #[.int .u8 4, .int .u64 0, .int .u64 0, .slice none 0 0, .bool false, .slice (some ⟨ab, 0, none⟩) 1 1, .int .i64 0, .int .i64 0, .int .u8 1, .int .u8 0, .int .i64 0, .bool false, .bool false, .bool false]

theorem Nd.laid {w : World} {rb ab : Nat} (h : w.heap[rb]? = some (.cells (nodeCells ab) 44 (0, 0))) : Nd w rb (.slice (some ⟨ab, 0, none⟩) 1 1) 0 0 1 := by
  refine ⟨?_, ?_, ?_, ?_, ?_, ?_, ?_, ?_⟩ <;> simp [World.cell?, World.frozen?, h, nodeCells]

/-- The state inside 'repeat': w0: the world at the call; the node lies in block w0.heap.size + 1, its one sub in block w0.heap.size. -/
structure Rp (w0 w : World) (pb sb L cap : Nat) (ch : Nat → Int) (pos : Nat) (syn : Int) (atom : Value) (mn mx pr : Int) : Prop where
  ps : Ps w pb sb L cap ch pos syn
  nd : Nd w (w0.heap.size + 1) (.slice (some ⟨w0.heap.size, 0, none⟩) 1 1) mn mx pr
  at0 : w.cell? ⟨w0.heap.size, 0, none⟩ = some atom
  gr : w0.grownBy w (some pb)
  pl : pb < w0.heap.size
  sl : sb < w0.heap.size

section
variable {w0 w : World} {pb sb L cap : Nat} {ch : Nat → Int} {pos : Nat} {syn : Int} {atom : Value} {mn mx pr : Int}

theorem Rp.start (h : Ps w0 pb sb L cap ch pos syn) (hL : 0 < L) (atom : Value) : Rp w0 ((w0.alloc (.cells #[atom] 35)).alloc (.cells (nodeCells w0.heap.size) 44)) pb sb L cap ch pos syn atom 0 0 1 := by
  have hb : Below w0.heap.size w0 ((w0.alloc (.cells #[atom] 35)).alloc (.cells (nodeCells w0.heap.size) 44)) := ((Below.refl _ _).alloc (Nat.le_refl _) _).alloc (by simp) _
  refine ⟨h.below hb, Nd.laid ?_, ?_, grown_below hb _, h.lt, World.block_lt_of_cell? w0 _ (h.chs 0 hL)⟩
  · have := heap_alloc_new (w0.alloc (.cells #[atom] 35)) (.cells (nodeCells w0.heap.size) 44)
    rw [World.size_alloc] at this
    exact this
  · rw [World.cell?_alloc_lt _ _ _ (by simp)]
    simp

theorem Rp.draws (h : Rp w0 w pb sb L cap ch pos syn atom mn mx pr) (n : Nat) : Rp w0 (w.drewN n) pb sb L cap ch pos syn atom mn mx pr := ⟨h.ps.draws n, h.nd.draws n, h.at0, grown_draws h.gr n, h.pl, h.sl⟩

/-- a callee that turns the parser's block alone -/
theorem Rp.call {w' : World} {pos' : Nat} (h : Rp w0 w pb sb L cap ch pos syn atom mn mx pr) (hp : Ps w' pb sb L cap ch pos' syn) (hg : w.grownBy w' (some pb)) : Rp w0 w' pb sb L cap ch pos' syn atom mn mx pr := by
  have h1 := h.pl
  exact ⟨hp, h.nd.grown hg (by omega), hg.cell h.at0 (by simp; omega), grown_tr h.gr hg, h.pl, h.sl⟩

theorem Rp.setPos (h : Rp w0 w pb sb L cap ch pos syn atom mn mx pr) {pos' : Nat} {x : Int} (hx : x = (pos' : Nat)) (hp : pos' ≤ L) : Rp w0 (w.setCell ⟨pb, 1, none⟩ (.int .i64 x)) pb sb L cap ch pos' syn atom mn mx pr := by
  have h1 := h.pl
  exact ⟨h.ps.move hx hp, h.nd.setP (by omega) _ _, (World.cell?_setCell_other _ _ _ _ (by intro e; injection e with e; omega)).trans h.at0, grown_setp h.gr _ _, h.pl, h.sl⟩

theorem grown_new {w0 w : World} {r : Option Nat} {b : Nat} (h : w0.grownBy w r) (hb : w0.heap.size ≤ b) (o : Nat) (x : Value) : w0.grownBy (w.setCell ⟨b, o, none⟩ x) r :=
  ⟨h.os, h.tape, h.output, by simpa [World.setCell] using h.size, fun k hk hne => (Below.heap_setCell _ _ _ _ (by simp; omega)).trans (h.block k hk hne)⟩

theorem Rp.node {mn' mx' pr' : Int} (h : Rp w0 w pb sb L cap ch pos syn atom mn mx pr) (o : Nat) (x : Value) (hn : Nd (w.setCell ⟨w0.heap.size + 1, o, none⟩ x) (w0.heap.size + 1) (.slice (some ⟨w0.heap.size, 0, none⟩) 1 1) mn' mx' pr') :
    Rp w0 (w.setCell ⟨w0.heap.size + 1, o, none⟩ x) pb sb L cap ch pos syn atom mn' mx' pr' := by
  have h1 := h.pl
  have h2 := h.sl
  exact ⟨h.ps.setR (by omega) (by omega) _ _, hn, (World.cell?_setCell_other _ _ _ _ (by intro e; injection e with e; omega)).trans h.at0, grown_new h.gr (by omega) _ _, h.pl, h.sl⟩

theorem Rp.setMin (h : Rp w0 w pb sb L cap ch pos syn atom mn mx pr) (x : Int) : Rp w0 (w.setCell ⟨w0.heap.size + 1, 6, none⟩ (.int .i64 x)) pb sb L cap ch pos syn atom x mx pr := h.node 6 _ (h.nd.setMin x)
theorem Rp.setMax (h : Rp w0 w pb sb L cap ch pos syn atom mn mx pr) (x : Int) : Rp w0 (w.setCell ⟨w0.heap.size + 1, 7, none⟩ (.int .i64 x)) pb sb L cap ch pos syn atom mn x pr := h.node 7 _ (h.nd.setMax x)
theorem Rp.setPref (h : Rp w0 w pb sb L cap ch pos syn atom mn mx pr) (x : Int) : Rp w0 (w.setCell ⟨w0.heap.size + 1, 8, none⟩ (.int .u8 x)) pb sb L cap ch pos syn atom mn mx x := h.node 8 _ (h.nd.setPref x)

theorem Rp.two {w' : World} (h : Rp w0 w pb sb L cap ch pos syn atom mn mx pr) (ht : Two pb (w0.heap.size + 1) w w') : w0.grownBy w' (some pb) ∧ w'.cell? ⟨w0.heap.size, 0, none⟩ = some atom := by
  have h1 := h.pl
  have h2 := h.gr.size
  refine ⟨⟨ht.os.trans h.gr.os, ht.tape.trans h.gr.tape, ht.output.trans h.gr.output, Nat.le_trans h.gr.size ht.size, fun k hk hne => (ht.block k (by omega) (by intro e; exact hne (by rw [e])) (by omega)).trans (h.gr.block k hk hne)⟩, ?_⟩
  have hl := World.block_lt_of_cell? w _ h.at0
  exact (World.cell?_of_block (w := w) (ht.block w0.heap.size hl (by omega) (by omega))).trans h.at0

theorem Rp.good (h : Rp w0 w pb sb L cap ch pos syn atom mn mx pr) : RepGood pb sb L cap ch syn atom mn mx pr pos w0 (.returned (.tuple #[.pointer (some ⟨w0.heap.size + 1, 0, none⟩), .nilIface])) w :=
  ⟨_, _, rfl, h.nd, h.at0, h.ps, h.gr⟩
end

set_option maxHeartbeats 2000000 in
set_option maxRecDepth 10000 in
theorem repeat_simple (w : World) (pb sb L cap : Nat) (ch : Nat → Int) (syn : Int) (h : Ps w pb sb L cap ch 0 syn) (atom : Option Addr) (hL : 0 < L) (mn mx : Int)
    (hc : (ch 0 = 42 ∧ mn = 0 ∧ mx = -1) ∨ (ch 0 = 43 ∧ mn = 1 ∧ mx = -1) ∨ (ch 0 = 63 ∧ mn = 0 ∧ mx = 1)) (pr : Int) (q : Nat)
    (hq : (syn = 0 ∧ 1 < L ∧ ch 1 = 63 ∧ pr = 2 ∧ q = 2) ∨ ((syn ≠ 0 ∨ peek L ch 1 63 = false) ∧ pr = 1 ∧ q = 1)) :
    Calls Yba.prog 6 #[.pointer (some ⟨pb, 0, none⟩), .pointer atom] w fun e w' => RepGood pb sb L cap ch syn (.pointer atom) mn mx pr q w e w' := by
  have hR := Rp.start h hL (.pointer atom)
  unfold nodeCells at hR
  have hle := h.le
  have hc1 := h.cap1
  go_enter Yba.func6, Yba.ntmps6
  go_wp2_with fail
  refine (next_any _ pb sb L cap ch 0 syn hR.ps hL).mono ?_
  rintro e w1 ⟨rfl, hp1, hg1⟩
  replace hR := hR.call hp1 hg1
  clear hp1 hg1 h
  obtain ⟨x, hx⟩ : ∃ x, x = ch 0 := ⟨_, rfl⟩
  rw [← hx] at hc ⊢
  clear hx
  have g6 := hR.nd.c6
  have g7 := hR.nd.c7
  have f6 := hR.nd.f6
  have f7 := hR.nd.f7
  rcases hc with ⟨rfl, rfl, rfl⟩ | ⟨rfl, rfl, rfl⟩ | ⟨rfl, rfl, rfl⟩
  · go_upto_region 15 with fail
    replace hR := (hR.setMin 0).setMax (-1)
    obtain ⟨Wx, hWx⟩ : ∃ Wx, (w1.setCell ⟨w.heap.size + 1, 6, none⟩ (.int .i64 0)).setCell ⟨w.heap.size + 1, 7, none⟩ (.int .i64 (-1)) = Wx := ⟨_, rfl⟩
    rw [hWx] at hR ⊢
    clear hWx g6 g7 f6 f7
    have c2 := hR.ps.c2
    rcases hq with ⟨rfl, hl1, hc63, rfl, rfl⟩ | ⟨hno, rfl, rfl⟩
    · have hpk := peekIs_any Wx pb sb L cap ch (0 + 1) 0 hR.ps 63
      rw [peek_yes (show 0 + 1 < L by omega) hc63] at hpk
      go_wp2_with fail
      refine hpk.mono ?_
      clear hpk
      rintro e w2 ⟨rfl, n2, hw2⟩
      replace hR : Rp w w2 pb sb L cap ch (0 + 1) 0 (Value.pointer atom) 0 (-1) 1 := by rw [hw2]; exact hR.draws n2
      clear hw2 c2
      have c1 : w2.cell? ⟨pb, 1, none⟩ = some (.int .i64 1) := hR.ps.c1
      have f1 := hR.ps.f1
      have g8 := hR.nd.c8
      have f8 := hR.nd.f8
      have hpl := hR.pl
      go_wp2
      go_ret2
      exact ((hR.setPos (pos' := 2) (by omega) (by omega)).setPref 2).good
    · rcases hno with hs | hpn
      · have hs' : (syn == 0) = false := by simp [hs]
        go_wp2
        go_ret2
        exact hR.good
      · by_cases hs : syn = 0
        · subst hs
          have hpk := peekIs_any Wx pb sb L cap ch (0 + 1) 0 hR.ps 63
          rw [show peek L ch (0 + 1) 63 = false from hpn] at hpk
          go_wp2_with fail
          refine hpk.mono ?_
          clear hpk
          rintro e w2 ⟨rfl, n2, hw2⟩
          replace hR : Rp w w2 pb sb L cap ch (0 + 1) 0 (Value.pointer atom) 0 (-1) 1 := by rw [hw2]; exact hR.draws n2
          clear hw2 c2
          go_wp2
          go_ret2
          exact hR.good
        · have hs' : (syn == 0) = false := by simp [hs]
          go_wp2
          go_ret2
          exact hR.good
  · go_upto_region 15 with fail
    replace hR := (hR.setMin 1).setMax (-1)
    obtain ⟨Wx, hWx⟩ : ∃ Wx, (w1.setCell ⟨w.heap.size + 1, 6, none⟩ (.int .i64 1)).setCell ⟨w.heap.size + 1, 7, none⟩ (.int .i64 (-1)) = Wx := ⟨_, rfl⟩
    rw [hWx] at hR ⊢
    clear hWx g6 g7 f6 f7
    have c2 := hR.ps.c2
    rcases hq with ⟨rfl, hl1, hc63, rfl, rfl⟩ | ⟨hno, rfl, rfl⟩
    · have hpk := peekIs_any Wx pb sb L cap ch (0 + 1) 0 hR.ps 63
      rw [peek_yes (show 0 + 1 < L by omega) hc63] at hpk
      go_wp2_with fail
      refine hpk.mono ?_
      clear hpk
      rintro e w2 ⟨rfl, n2, hw2⟩
      replace hR : Rp w w2 pb sb L cap ch (0 + 1) 0 (Value.pointer atom) 1 (-1) 1 := by rw [hw2]; exact hR.draws n2
      clear hw2 c2
      have c1 : w2.cell? ⟨pb, 1, none⟩ = some (.int .i64 1) := hR.ps.c1
      have f1 := hR.ps.f1
      have g8 := hR.nd.c8
      have f8 := hR.nd.f8
      have hpl := hR.pl
      go_wp2
      go_ret2
      exact ((hR.setPos (pos' := 2) (by omega) (by omega)).setPref 2).good
    · rcases hno with hs | hpn
      · have hs' : (syn == 0) = false := by simp [hs]
        go_wp2
        go_ret2
        exact hR.good
      · by_cases hs : syn = 0
        · subst hs
          have hpk := peekIs_any Wx pb sb L cap ch (0 + 1) 0 hR.ps 63
          rw [show peek L ch (0 + 1) 63 = false from hpn] at hpk
          go_wp2_with fail
          refine hpk.mono ?_
          clear hpk
          rintro e w2 ⟨rfl, n2, hw2⟩
          replace hR : Rp w w2 pb sb L cap ch (0 + 1) 0 (Value.pointer atom) 1 (-1) 1 := by rw [hw2]; exact hR.draws n2
          clear hw2 c2
          go_wp2
          go_ret2
          exact hR.good
        · have hs' : (syn == 0) = false := by simp [hs]
          go_wp2
          go_ret2
          exact hR.good
  · go_upto_region 15 with fail
    replace hR := (hR.setMin 0).setMax (1)
    obtain ⟨Wx, hWx⟩ : ∃ Wx, (w1.setCell ⟨w.heap.size + 1, 6, none⟩ (.int .i64 0)).setCell ⟨w.heap.size + 1, 7, none⟩ (.int .i64 (1)) = Wx := ⟨_, rfl⟩
    rw [hWx] at hR ⊢
    clear hWx g6 g7 f6 f7
    have c2 := hR.ps.c2
    rcases hq with ⟨rfl, hl1, hc63, rfl, rfl⟩ | ⟨hno, rfl, rfl⟩
    · have hpk := peekIs_any Wx pb sb L cap ch (0 + 1) 0 hR.ps 63
      rw [peek_yes (show 0 + 1 < L by omega) hc63] at hpk
      go_wp2_with fail
      refine hpk.mono ?_
      clear hpk
      rintro e w2 ⟨rfl, n2, hw2⟩
      replace hR : Rp w w2 pb sb L cap ch (0 + 1) 0 (Value.pointer atom) 0 (1) 1 := by rw [hw2]; exact hR.draws n2
      clear hw2 c2
      have c1 : w2.cell? ⟨pb, 1, none⟩ = some (.int .i64 1) := hR.ps.c1
      have f1 := hR.ps.f1
      have g8 := hR.nd.c8
      have f8 := hR.nd.f8
      have hpl := hR.pl
      go_wp2
      go_ret2
      exact ((hR.setPos (pos' := 2) (by omega) (by omega)).setPref 2).good
    · rcases hno with hs | hpn
      · have hs' : (syn == 0) = false := by simp [hs]
        go_wp2
        go_ret2
        exact hR.good
      · by_cases hs : syn = 0
        · subst hs
          have hpk := peekIs_any Wx pb sb L cap ch (0 + 1) 0 hR.ps 63
          rw [show peek L ch (0 + 1) 63 = false from hpn] at hpk
          go_wp2_with fail
          refine hpk.mono ?_
          clear hpk
          rintro e w2 ⟨rfl, n2, hw2⟩
          replace hR : Rp w w2 pb sb L cap ch (0 + 1) 0 (Value.pointer atom) 0 (1) 1 := by rw [hw2]; exact hR.draws n2
          clear hw2 c2
          go_wp2
          go_ret2
          exact hR.good
        · have hs' : (syn == 0) = false := by simp [hs]
          go_wp2
          go_ret2
          exact hR.good
set_option maxHeartbeats 2000000 in
set_option maxRecDepth 10000 in
/-- A bound that 'counts' refuses. -/
theorem repeat_err (w : World) (pb sb L cap : Nat) (ch : Nat → Int) (syn : Int) (h : Ps w pb sb L cap ch 0 syn) (atom : Option Addr) (hL : 0 < L) (p0 : Nat) (hc : (ch 0 = 123 ∧ p0 = 1) ∨ (ch 0 = 92 ∧ p0 = 2)) (hp0 : p0 ≤ L) (E : ByteArray)
    (hcnt : ∀ W, Rp w W pb sb L cap ch p0 syn (.pointer atom) 0 0 1 → Calls Yba.prog 10 #[.pointer (some ⟨pb, 0, none⟩), .pointer (some ⟨w.heap.size + 1, 0, none⟩)] W fun e w' => e = .returned (.iface 29 (.string E)) ∧ Two pb (w.heap.size + 1) W w') :
    Calls Yba.prog 6 #[.pointer (some ⟨pb, 0, none⟩), .pointer atom] w fun e w' => e = .returned (.tuple #[.pointer none, .iface 29 (.string E)]) ∧ w.grownBy w' (some pb) := by
  have hR := Rp.start h hL (.pointer atom)
  unfold nodeCells at hR
  have hle := h.le
  have hc1 := h.cap1
  go_enter Yba.func6, Yba.ntmps6
  go_wp2_with fail
  refine (next_any _ pb sb L cap ch 0 syn hR.ps hL).mono ?_
  rintro e w1 ⟨rfl, hp1, hg1⟩
  replace hR := hR.call hp1 hg1
  clear hp1 hg1 h
  obtain ⟨x, hx⟩ : ∃ x, x = ch 0 := ⟨_, rfl⟩
  rw [← hx] at hc ⊢
  clear hx
  have hc92 : p0 ≤ L := by omega
  go_upto_if 21 with fail
  go_cut [] (fun wc => Rp w wc pb sb L cap ch p0 syn (Value.pointer atom) 0 0 1)
  case first =>
    clear hcnt
    rcases hc with ⟨rfl, rfl⟩ | ⟨rfl, rfl⟩
    · go_wp2
      go_meet
      case rel => exact hR
    · have c1 : w1.cell? ⟨pb, 1, none⟩ = some (.int .i64 1) := hR.ps.c1
      have f1 := hR.ps.f1
      go_wp2
      go_meet
      case rel => exact hR.setPos (by omega) (by omega)
  case rest =>
    clear hR
    go_wp2_with fail
    refine (hcnt _ hcut).mono ?_
    rintro e w3 ⟨rfl, hT⟩
    have hz := (hcut.two hT).1
    clear hcnt hT hcut
    go_wp2
    go_ret2
    exact ⟨rfl, hz⟩

set_option maxHeartbeats 2000000 in
set_option maxRecDepth 10000 in
/-- A bound that 'counts' takes. -/
theorem repeat_good (w : World) (pb sb L cap : Nat) (ch : Nat → Int) (syn : Int) (h : Ps w pb sb L cap ch 0 syn) (atom : Option Addr) (hL : 0 < L) (p0 : Nat) (hc : (ch 0 = 123 ∧ p0 = 1) ∨ (ch 0 = 92 ∧ p0 = 2)) (hp0 : p0 ≤ L)
    (mn mx pr1 : Int) (q1 : Nat) (hpr1 : 0 ≤ pr1 ∧ pr1 ≤ 1)
    (hcnt : ∀ W, Rp w W pb sb L cap ch p0 syn (.pointer atom) 0 0 1 → Calls Yba.prog 10 #[.pointer (some ⟨pb, 0, none⟩), .pointer (some ⟨w.heap.size + 1, 0, none⟩)] W fun e w' => e = .returned .nilIface ∧ Two pb (w.heap.size + 1) W w' ∧
      Ps w' pb sb L cap ch q1 syn ∧ Nd w' (w.heap.size + 1) (.slice (some ⟨w.heap.size, 0, none⟩) 1 1) mn mx pr1) (pr : Int) (q : Nat)
    (hq : (syn = 0 ∧ q1 < L ∧ ch q1 = 63 ∧ pr = (if pr1 = 0 then 0 else 2) ∧ q = q1 + 1) ∨ ((syn ≠ 0 ∨ peek L ch q1 63 = false) ∧ pr = pr1 ∧ q = q1)) :
    Calls Yba.prog 6 #[.pointer (some ⟨pb, 0, none⟩), .pointer atom] w fun e w' => RepGood pb sb L cap ch syn (.pointer atom) mn mx pr q w e w' := by
  have hR := Rp.start h hL (.pointer atom)
  unfold nodeCells at hR
  have hle := h.le
  have hc1 := h.cap1
  go_enter Yba.func6, Yba.ntmps6
  go_wp2_with fail
  refine (next_any _ pb sb L cap ch 0 syn hR.ps hL).mono ?_
  rintro e w1 ⟨rfl, hp1, hg1⟩
  replace hR := hR.call hp1 hg1
  clear hp1 hg1 h
  obtain ⟨x, hx⟩ : ∃ x, x = ch 0 := ⟨_, rfl⟩
  rw [← hx] at hc ⊢
  clear hx
  have hc92 : p0 ≤ L := by omega
  go_upto_if 21 with fail
  go_cut [] (fun wc => Rp w wc pb sb L cap ch p0 syn (Value.pointer atom) 0 0 1)
  case first =>
    clear hcnt
    rcases hc with ⟨rfl, rfl⟩ | ⟨rfl, rfl⟩
    · go_wp2
      go_meet
      case rel => exact hR
    · have c1 : w1.cell? ⟨pb, 1, none⟩ = some (.int .i64 1) := hR.ps.c1
      have f1 := hR.ps.f1
      go_wp2
      go_meet
      case rel => exact hR.setPos (by omega) (by omega)
  case rest =>
    clear hR
    go_wp2_with fail
    refine (hcnt _ hcut).mono ?_
    rintro e w3 ⟨rfl, hT, hp3, hn3⟩
    have hz := hcut.two hT
    have hR : Rp w w3 pb sb L cap ch q1 syn (.pointer atom) mn mx pr1 := ⟨hp3, hn3, hz.2, hz.1, hcut.pl, hcut.sl⟩
    clear hcnt hT hcut hz hp3 hn3 hc
    have c2 := hR.ps.c2
    rcases hq with ⟨rfl, hl1, hc63, hpr, rfl⟩ | ⟨hno, rfl, rfl⟩
    · have hpk := peekIs_any w3 pb sb L cap ch q1 0 hR.ps 63
      rw [peek_yes hl1 hc63] at hpk
      go_wp2_with fail
      refine hpk.mono ?_
      clear hpk
      rintro e w4 ⟨rfl, n4, hw4⟩
      replace hR : Rp w w4 pb sb L cap ch q1 0 (Value.pointer atom) mn mx pr1 := by rw [hw4]; exact hR.draws n4
      clear hw4 c2
      have c1 := hR.ps.c1
      have f1 := hR.ps.f1
      have g8 := hR.nd.c8
      have f8 := hR.nd.f8
      have hpl := hR.pl
      by_cases h0 : pr1 = 0
      · subst h0
        have HPR : Hid (pr = 0) := hpr.trans (if_pos rfl)
        clear hpr
        go_wp2
        go_ret2
        rw [HPR.out]
        exact (hR.setPos (pos' := q1 + 1) (by omega) (by omega)).good
      · have h0' : (pr1 != 0) = true := by simp [h0]
        have HPR : Hid (pr = 2) := hpr.trans (if_neg h0)
        clear hpr
        go_wp2
        go_ret2
        rw [HPR.out]
        exact ((hR.setPos (pos' := q1 + 1) (by omega) (by omega)).setPref 2).good
    · rcases hno with hs | hpn
      · have hs' : (syn == 0) = false := by simp [hs]
        go_wp2
        go_ret2
        exact hR.good
      · by_cases hs : syn = 0
        · subst hs
          have hpk := peekIs_any w3 pb sb L cap ch q 0 hR.ps 63
          rw [hpn] at hpk
          go_wp2_with fail
          refine hpk.mono ?_
          clear hpk
          rintro e w4 ⟨rfl, n4, hw4⟩
          replace hR : Rp w w4 pb sb L cap ch q 0 (Value.pointer atom) mn mx pr := by rw [hw4]; exact hR.draws n4
          clear hw4 c2
          go_wp2
          go_ret2
          exact hR.good
        · have hs' : (syn == 0) = false := by simp [hs]
          go_wp2
          go_ret2
          exact hR.good

end Qx
end Go.Proofs.Ybulkccoo
