import Derived.Test.YbulkccooQ2
namespace Go.Proofs.Ybulkccoo
open Go.RowKit
namespace Qx

theorem one_ascii : ∀ i (h : i < (ByteArray.mk #[125]).size), ((ByteArray.mk #[125])[i]'h).toNat < 128 := by decide
theorem two_ascii : ∀ i (h : i < (ByteArray.mk #[92, 125]).size), ((ByteArray.mk #[92, 125])[i]'h).toNat < 128 := by decide

theorem rune1 (w : World) : Calls Yba.prog 21 #[.string { data := #[125] }] w fun e w' => e = .returned (.int .i64 1) ∧ Below w.heap.size w w' := runes_ascii (ByteArray.mk #[125]) (by decide) one_ascii w
theorem rune2 (w : World) : Calls Yba.prog 21 #[.string { data := #[92, 125] }] w fun e w' => e = .returned (.int .i64 2) ∧ Below w.heap.size w w' := runes_ascii (ByteArray.mk #[92, 125]) (by decide) two_ascii w

theorem conv1 (w : World) (sb pos c : Nat) (x : Int) (b : UInt8) (hx : w.cell? ⟨sb, pos, none⟩ = some (.int .i32 x)) (hb : runesBytes [x] = { data := #[b] }) :
    (convert 24 9 (.slice (some ⟨sb, pos, none⟩) 1 c)).run Yba.prog w = .ok (.string { data := #[b] }) w := by
  have := run_convert_runes (P := Yba.prog) w 24 9 21 ⟨sb, pos, none⟩ 1 c [x] (by simp) Yba.underlying24 Yba.underlying21 Yba.underlying9 (fun j hj => by
    match j, hj with
    | 0, _ => simpa [Addr.add] using hx)
  rw [this]
  simp [hb]

theorem conv2 (w : World) (sb pos c : Nat) (x y : Int) (b d : UInt8) (hx : w.cell? ⟨sb, pos, none⟩ = some (.int .i32 x)) (hy : w.cell? ⟨sb, pos + 1, none⟩ = some (.int .i32 y)) (hb : runesBytes [x, y] = { data := #[b, d] }) :
    (convert 24 9 (.slice (some ⟨sb, pos, none⟩) 2 c)).run Yba.prog w = .ok (.string { data := #[b, d] }) w := by
  have := run_convert_runes (P := Yba.prog) w 24 9 21 ⟨sb, pos, none⟩ 2 c [x, y] (by simp) Yba.underlying24 Yba.underlying21 Yba.underlying9 (fun j hj => by
    match j, hj with
    | 0, _ => simpa [Addr.add] using hx
    | 1, _ => simpa [Addr.add] using hy)
  rw [this]
  simp [hb]

theorem Ps.below {w w' : World} {pb sb L cap : Nat} {ch : Nat → Int} {pos : Nat} {syn : Int} (h : Ps w pb sb L cap ch pos syn) (hb : Below w.heap.size w w') : Ps w' pb sb L cap ch pos syn :=
  h.keep (fun a _ hv => (hb.cell (World.block_lt_of_cell? w a hv)).trans hv) (hb.frozen h.lt)

theorem grown_below {w w' : World} (hb : Below w.heap.size w w') (r : Option Nat) : w.grownBy w' r := ⟨hb.os, hb.tape, hb.output, hb.size, fun k hk _ => hb.block k hk⟩
theorem grown_tr {a b c : World} {row : Option Nat} (h : a.grownBy b row) (k : b.grownBy c row) : a.grownBy c row :=
  ⟨k.os.trans h.os, k.tape.trans h.tape, k.output.trans h.output, Nat.le_trans h.size k.size, fun i hi hne => (k.block i (Nat.lt_of_lt_of_le hi h.size) hne).trans (h.block i hi hne)⟩

set_option maxHeartbeats 400000 in
set_option maxRecDepth 10000 in
/-- skipPrefix of the one sign that ends a bound -/
theorem prefix1_any (w : World) (pb sb L cap : Nat) (ch : Nat → Int) (pos : Nat) (syn : Int) (h : Ps w pb sb L cap ch pos syn) (hlt : pos < L) (b : UInt8) (hb : runesBytes [ch pos] = { data := #[b] }) :
    Calls Yba.prog 17 #[.pointer (some ⟨pb, 0, none⟩), .string { data := #[125] }] w fun e w' => e = .returned (.bool (b == 125)) ∧ Ps w' pb sb L cap ch (if b == 125 then pos + 1 else pos) syn ∧ w.grownBy w' (some pb) := by
  have c0 := h.c0
  have c1 := h.c1
  have hle := h.le
  have hc1 := h.cap1
  have h0 : (0 : Int) ≤ (pos : Int) := by omega
  have h1 : (pos : Int) ≤ (L : Int) := by omega
  have h2 : (pos : Int) ≤ (cap : Int) := by omega
  have h3 : (1 : Int) ≤ ((cap - pos : Nat) : Int) := by omega
  have h4 : (1 : Int) ≤ ((L - pos : Nat) : Int) := by omega
  have h7 : decide (((L - pos : Nat) : Int) < 1) = false := by simp; omega
  have h5 : 1 ≤ cap - pos := by omega
  have h6 : 1 ≤ L - pos := by omega
  go_enter Yba.func17, Yba.ntmps17
  go_wp2_with fail
  go_quiet (fail)
  go_wp2_with fail
  refine (rune1 _).mono ?_
  rintro e w1 ⟨rfl, hb1⟩
  have hp := (h.draws nq).below hb1
  have hg := grown_tr (grown_draws (World.grownBy.refl w (some pb)) nq) (grown_below hb1 (some pb))
  have hcv := conv1 w1 sb pos (cap - pos) (ch pos) b (hp.chs pos hlt) hb
  have d1 := hp.c1
  have f1 := hp.f1
  clear hb1 h c0 c1
  cases hbb : (b == 125)
  · have hbe : ¬ b = 125 := by simpa using hbb
    go_wp2
    all_goals
      go_ret
      exact ⟨rfl, hp, hg⟩
  · have hbe : b = 125 := by simpa using hbb
    subst hbe
    go_wp2
    go_ret
    exact ⟨rfl, hp.move (by omega) (by omega), grown_setp hg _ _⟩

set_option maxHeartbeats 400000 in
set_option maxRecDepth 10000 in
/-- skipPrefix of the two signs that end a bound in the basic kind, at least two runes left -/
theorem prefix2_any (w : World) (pb sb L cap : Nat) (ch : Nat → Int) (pos : Nat) (syn : Int) (h : Ps w pb sb L cap ch pos syn) (hlt : pos + 2 ≤ L) (b d : UInt8) (hb : runesBytes [ch pos, ch (pos + 1)] = { data := #[b, d] }) :
    Calls Yba.prog 17 #[.pointer (some ⟨pb, 0, none⟩), .string { data := #[92, 125] }] w fun e w' => e = .returned (.bool (b == 92 && d == 125)) ∧ Ps w' pb sb L cap ch (if b == 92 && d == 125 then pos + 2 else pos) syn ∧ w.grownBy w' (some pb) := by
  have c0 := h.c0
  have c1 := h.c1
  have hle := h.le
  have hc1 := h.cap1
  have h0 : (0 : Int) ≤ (pos : Int) := by omega
  have h1 : (pos : Int) ≤ (L : Int) := by omega
  have h2 : (pos : Int) ≤ (cap : Int) := by omega
  have h3 : (2 : Int) ≤ ((cap - pos : Nat) : Int) := by omega
  have h4 : (2 : Int) ≤ ((L - pos : Nat) : Int) := by omega
  have h7 : decide (((L - pos : Nat) : Int) < 2) = false := by simp; omega
  have h5 : 2 ≤ cap - pos := by omega
  have h6 : 2 ≤ L - pos := by omega
  go_enter Yba.func17, Yba.ntmps17
  go_wp2_with fail
  go_quiet (fail)
  go_wp2_with fail
  refine (rune2 _).mono ?_
  rintro e w1 ⟨rfl, hb1⟩
  have hp := (h.draws nq).below hb1
  have hg := grown_tr (grown_draws (World.grownBy.refl w (some pb)) nq) (grown_below hb1 (some pb))
  have hcv := conv2 w1 sb pos (cap - pos) (ch pos) (ch (pos + 1)) b d (hp.chs pos (by omega)) (hp.chs (pos + 1) (by omega)) hb
  have d1 := hp.c1
  have f1 := hp.f1
  clear hb1 h c0 c1
  cases hbb : (b == 92 && d == 125)
  · have hbe : (b == 92) = true → ¬ d = 125 := by intro h; simpa [h] using hbb
    go_wp2
    all_goals
      go_ret
      exact ⟨rfl, hp, hg⟩
  · have hbe : b = 92 ∧ d = 125 := by simpa using hbb
    obtain ⟨rfl, rfl⟩ := hbe
    go_wp2
    go_ret
    exact ⟨rfl, hp.move (by omega) (by omega), grown_setp hg _ _⟩

set_option maxHeartbeats 400000 in
set_option maxRecDepth 10000 in
/-- .. one rune left: no -/
theorem prefix2_one (w : World) (pb sb L cap : Nat) (ch : Nat → Int) (pos : Nat) (syn : Int) (h : Ps w pb sb L cap ch pos syn) (hlt : pos + 1 = L) :
    Calls Yba.prog 17 #[.pointer (some ⟨pb, 0, none⟩), .string { data := #[92, 125] }] w fun e w' => e = .returned (.bool false) ∧ Ps w' pb sb L cap ch pos syn ∧ w.grownBy w' (some pb) := by
  have c0 := h.c0
  have c1 := h.c1
  have hle := h.le
  have hc1 := h.cap1
  have h0 : (0 : Int) ≤ (pos : Int) := by omega
  have h1 : (pos : Int) ≤ (L : Int) := by omega
  have h2 : (pos : Int) ≤ (cap : Int) := by omega
  have h7 : decide (((L - pos : Nat) : Int) < 2) = true := by simp; omega
  have h8 : pos < cap := by omega
  have h9 : L - pos < 2 := by omega
  have HL : Hid (pos + 1 = L) := hlt
  clear hlt
  go_enter Yba.func17, Yba.ntmps17
  go_wp2_with fail
  go_quiet (fail)
  go_wp2_with fail
  refine (rune2 _).mono ?_
  rintro e w1 ⟨rfl, hb1⟩
  have hp := (h.draws nq).below hb1
  have hg := grown_tr (grown_draws (World.grownBy.refl w (some pb)) nq) (grown_below hb1 (some pb))
  clear hb1 h c0 c1
  go_wp2
  go_ret
  exact ⟨rfl, hp, hg⟩

end Qx
end Go.Proofs.Ybulkccoo
