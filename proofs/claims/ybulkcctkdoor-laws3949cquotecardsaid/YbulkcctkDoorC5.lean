import Derived.Test.YbulkcctkDoorC4
import Derived.Deep.CutRange
import Derived.Deep.DeepCutAuto
import Derived.Deep.RegionHeld3
import Derived.Deep.Light
import Derived.Laws.StructEq
import Derived.ChangeMaps5
namespace Go.Proofs.YbulkcctkDoor
open Go.RowKit
namespace Cx

/-- the value of the last pair with that key, of the first n -/
def lastv (K V : Nat → ByteArray) : Nat → ByteArray → Option ByteArray
  | 0, _ => none
  | n + 1, s => if s = K n then some (V n) else lastv K V n s

theorem lastv_some (K V : Nat → ByteArray) : ∀ n i, i < n → ∃ v, lastv K V n (K i) = some v
  | 0, _, h => by omega
  | n + 1, i, h => by
    by_cases e : K i = K n
    · exact ⟨V n, by simp [lastv, e]⟩
    · obtain ⟨v, hv⟩ := lastv_some K V n i (by
        rcases Nat.lt_or_ge i n with h' | h'
        · exact h'
        · exact absurd (by rw [show i = n by omega]) e)
      exact ⟨v, by simp [lastv, e, hv]⟩

/-- the map, as the rest of the law meets it -/
def Mz (w : World) (mv : Option Nat) (lk : ByteArray → Option ByteArray) (len : Nat) : Prop :=
  (mv = none ∧ (∀ s, lk s = none) ∧ len = 0) ∨ ∃ mb L clock, mv = some mb ∧ w.heap[mb]? = some (.map (mp L) clock) ∧ (∀ s, get s L = lk s) ∧ len = L.length

theorem Mz.later {w w' : World} {mv : Option Nat} {lk : ByteArray → Option ByteArray} {len : Nat} (h : Mz w mv lk len) (hb : Below w.heap.size w w') : Mz w' mv lk len := by
  rcases h with h | ⟨mb, L, clock, h1, h2, h3⟩
  · exact .inl h
  · exact .inr ⟨mb, L, clock, h1, (hb.block mb (Array.getElem?_eq_some_iff.1 h2).1).trans h2, h3⟩

theorem Mz.look {w : World} {mv : Option Nat} {lk : ByteArray → Option ByteArray} {len : Nat} (h : Mz w mv lk len) (s : ByteArray) :
    (Instr.lookup 24 (.map mv) (.string s) true).run Ybad.prog w = .ok (lku (lk s)) w := by
  rcases h with ⟨rfl, h, _⟩ | ⟨mb, L, clock, rfl, h2, h3, _⟩
  · rw [run_lookup_nil, h s]
  · rw [run_lookup s L clock mb w h2, h3 s]

theorem Mz.len {w : World} {mv : Option Nat} {lk : ByteArray → Option ByteArray} {len : Nat} (h : Mz w mv lk len) (ty : TypeId) :
    (Builtin.len_ #[24] ty #[.map mv]).run Ybad.prog w = .ok (goInt len) w := by
  rcases h with ⟨rfl, _, rfl⟩ | ⟨mb, L, clock, rfl, h2, h3, rfl⟩
  · simp [Builtin.len_, run_underlying Ybad.underlying24]
  · simp [Builtin.len_, run_underlying Ybad.underlying24, MapKept.run_getObj_map h2, mp]

/-- what the law is told of its arguments -/
structure Qin (w : World) (a0 : Option Addr) (l0 : Nat) (a1 : Option Addr) (l1 : Nat) (K V : Nat → ByteArray) : Prop where
  kl : l0 ≤ 1024
  vl : l1 ≤ 1024
  kc : l0 = 0 ∨ ∃ g o, a0 = some ⟨g, o, none⟩ ∧ ∀ i, i < l0 → w.cell? ⟨g, o + i, none⟩ = some (.string (K i))
  vc : l1 = 0 ∨ ∃ g o, a1 = some ⟨g, o, none⟩ ∧ ∀ i, i < l1 → w.cell? ⟨g, o + i, none⟩ = some (.string (V i))
  tab : Tb w

/-- behind the building of the map -/
def Mcut (w : World) (nm : Bool) (n : Nat) (K V : Nat → ByteArray) (m : Value) (wx : World) : Prop :=
  (nm = true ∧ m = .map none ∧ wx = w) ∨ (nm = false ∧ m = .map (some w.heap.size) ∧ (∃ L clock, wx.heap[w.heap.size]? = some (.map (mp L) clock) ∧ ∀ s, get s L = lastv K V n s) ∧ Below w.heap.size w wx)

/-- the map between two rounds -/
def Lq (w : World) (n : Nat) (K V : Nat → ByteArray) (i : Value) (wr : World) : Prop :=
  ∃ (k : Nat) (L : List (ByteArray × ByteArray × Nat)) (clock : Nat), k ≤ n ∧ i = .int .i64 (k : Nat) ∧ wr.heap[w.heap.size]? = some (.map (mp L) clock) ∧ (∀ s, get s L = lastv K V k s) ∧ Below w.heap.size w wr

theorem below_setBlock {B b : Nat} {a w : World} {es : Array MapEntry} {c : Nat} (h : Below B a w) (hm : w.heap[b]? = some (.map es c)) (hb : B ≤ b) (o : Obj) : Below B a (ChangeMaps.setBlock w b o) :=
  h.trans ⟨rfl, rfl, rfl, by simp [ChangeMaps.setBlock], fun k hk => ChangeMaps.heap_setBlock_other hm o (by omega)⟩

theorem Mcut.mz {w wx : World} {nm : Bool} {n : Nat} {K V : Nat → ByteArray} {m : Value} (h : Mcut w nm n K V m wx) :
    ∃ mv len, m = .map mv ∧ Mz wx mv (fun s => if nm = true then none else lastv K V n s) len ∧ Below w.heap.size w wx := by
  rcases h with ⟨rfl, rfl, rfl⟩ | ⟨rfl, rfl, ⟨L, clock, hm, hg⟩, hB⟩
  · exact ⟨none, 0, rfl, .inl ⟨rfl, fun _ => rfl, rfl⟩, Below.refl _ _⟩
  · exact ⟨some w.heap.size, L.length, rfl, .inr ⟨_, L, clock, rfl, hm, fun s => by simpa using hg s, rfl⟩, hB⟩

/-- the second loop between two rounds -/
def Lv (K V : Nat → ByteArray) (n : Nat) (hs : ByteArray) (count : Nat) (w5 : World) (wv i : Value) (wr : World) : Prop :=
  ∃ k, k ≤ n ∧ i = .int .i64 (k : Nat) ∧ wv = .string ((lastv K V k hs).getD (dec count)) ∧ wr = w5

theorem eq_toList (a b : ByteArray) : (a.toList == b.toList) = decide (a = b) := by rw [← beq_toListBytes, ba_beq]

set_option maxHeartbeats 8000000 in
set_option maxRecDepth 100000 in
theorem law_q (w : World) (a0 : Option Addr) (l0 c0 : Nat) (a1 : Option Addr) (l1 c1 : Nat) (K V : Nat → ByteArray) (host : ByteArray) (count : Nat) (hc64 : count < 18446744073709551616) (pick : Int) (hp0 : 0 ≤ pick) (hp1 : pick ≤ 255) (nm : Bool) (hQin : Qin w a0 l0 a1 l1 K V) :
    Calls Ybad.prog 3 #[.slice a0 l0 c0, .slice a1 l1 c1, .string host, .int .u64 count, .int .u8 pick, .bool nm] w fun e w' => e = .returned (.bool true) ∧ Below w.heap.size w w' := by
  have hkl := hQin.kl
  have hvl := hQin.vl
  have hkl' : ¬ ((1024 : Int) < (l0 : Int)) := by omega
  have hvl' : ¬ ((1024 : Int) < (l1 : Int)) := by omega
  obtain ⟨n, hn⟩ : ∃ n, n = min l0 l1 := ⟨_, rfl⟩
  have hn0 : n ≤ l0 := by omega
  have hn1 : n ≤ l1 := by omega
  go_enter Ybad.func3, Ybad.ntmps3
  go_upto_if 38 with fail
  go_cut [13] (fun v wx => v = .int .i64 (n : Nat) ∧ w = wx)
  case first =>
    by_cases hl : l1 < l0
    · have hl' : (l1 : Int) < (l0 : Int) := by omega
      have e : n = l1 := by omega
      clear hn hn0 hn1
      subst e
      go_wp2_with fail
      go_meet
      exact ⟨rfl, rfl⟩
    · have hl' : ¬ (l1 : Int) < (l0 : Int) := by omega
      have e : n = l0 := by omega
      clear hn hn0 hn1
      subst e
      go_wp2_with fail
      go_meet
      exact ⟨rfl, rfl⟩
  case rest =>
    obtain ⟨rfl, rfl⟩ := hcut
    clear hn
    go_upto_if 42 with fail
    go_cut [14] (fun m wx => Mcut w nm n K V m wx)
    case first =>
      cases nm
      · have hmm := @run_makeMap Ybad.prog
        have hst : Lq w n K V (.int .i64 0) (w.alloc (.map #[] 0)) := ⟨0, [], 0, Nat.zero_le _, rfl, heap_alloc_new w _, fun _ => rfl, (Below.refl _ w).alloc (Nat.le_refl _) _⟩
        go_wp2_with fail
        clear hmm
        go_loopw [15] (fun i wr => Lq w n K V i wr) (fun i _ => n - (intOf i).toNat)
        case atStart => exact hst
        case round =>
          clear hst
          obtain ⟨k, L, clock, hk, rfl, hm, hg, hB⟩ := hrel
          by_cases hlt : k < n
          · obtain ⟨g0, o0, rfl, hk0⟩ := hQin.kc.resolve_left (by omega)
            obtain ⟨g1, o1, rfl, hv0⟩ := hQin.vc.resolve_left (by omega)
            have c0 := cell_later hB (hk0 k (by omega))
            have c1 := cell_later hB (hv0 k (by omega))
            have i0 : (0 : Int) ≤ (k : Int) := by omega
            have i1 : (k : Int) < (l0 : Int) := by omega
            have i2 : (k : Int) < (l1 : Int) := by omega
            have i3 : (k : Int) < (n : Int) := by omega
            have b0 : g0 < w.heap.size := World.block_lt_of_cell? w _ (hk0 k (by omega))
            have b1 : g1 < w.heap.size := World.block_lt_of_cell? w _ (hv0 k (by omega))
            have s0 : ∀ ob, (ChangeMaps.setBlock wr.drew w.heap.size ob).cell? ⟨g0, o0 + k, none⟩ = some (.string (K k)) := fun ob => by
              rw [World.cell?_of_block (w := wr.drew) (ChangeMaps.heap_setBlock_other (w := wr.drew) hm ob (by show g0 ≠ _; omega))]; exact c0
            have s1 : ∀ ob, (ChangeMaps.setBlock wr.drew w.heap.size ob).cell? ⟨g1, o1 + k, none⟩ = some (.string (V k)) := fun ob => by
              rw [World.cell?_of_block (w := wr.drew) (ChangeMaps.heap_setBlock_other (w := wr.drew) hm ob (by show g1 ≠ _; omega))]; exact c1
            obtain ⟨cb, hmd⟩ := run_update (K k) (V k) L clock w.heap.size wr.drew hm
            go_wp2_with fail
            go_region_held3 (fun w' => w'.cell? ⟨g0, o0 + k, none⟩ = some (.string (K k)) ∧ w'.cell? ⟨g1, o1 + k, none⟩ = some (.string (V k))) (first | go_keep | exact ⟨s0 _, s1 _⟩) (fail)
            go_wp2
            exact ⟨⟨k + 1, _, cb, hlt, by simp, ChangeMaps.heap_setBlock_same (w := wr.drew) hm _, fun s => by rw [get_ins, hg s]; rfl, below_setBlock hB.drew (w := wr.drew) hm (Nat.le_refl _) _⟩, by simp [intOf]; omega⟩
          · obtain rfl : k = n := by omega
            go_wp2_with fail
            go_meet
            exact .inr ⟨rfl, rfl, ⟨L, clock, hm, hg⟩, hB⟩
      · go_wp2_with fail
        go_meet
        exact .inl ⟨rfl, rfl, rfl⟩
    case rest =>
      obtain ⟨mv, len, rfl, hz, hB⟩ := hcut.mz
      clear hcut
      go_upto_region 14 with fail
      go_cut [65] (fun bv wy => (∃ x : Bool, bv = .bool x ∧ (x = true → 0 < n)) ∧ wc = wy)
      case first =>
        by_cases hp : pick.tmod 2 = 0
        · have hp' : (pick.tmod 2 == 0) = true := by simp [hp]
          by_cases hpos : 0 < n
          · have hpos' : (0 : Int) < (n : Int) := by omega
            go_wp2_with fail
            all_goals go_meet
            all_goals first | exact ⟨⟨_, rfl, fun hx => of_decide_eq_true hx⟩, rfl⟩ | exact ⟨⟨false, rfl, fun hx => by cases hx⟩, rfl⟩ | exact ⟨⟨true, rfl, fun _ => by omega⟩, rfl⟩
          · have hpos' : ¬ (0 : Int) < (n : Int) := by omega
            go_wp2_with fail
            all_goals go_meet
            all_goals first | exact ⟨⟨_, rfl, fun hx => of_decide_eq_true hx⟩, rfl⟩ | exact ⟨⟨false, rfl, fun hx => by cases hx⟩, rfl⟩ | exact ⟨⟨true, rfl, fun _ => by omega⟩, rfl⟩
        · have hp' : (pick.tmod 2 == 0) = false := by simp [hp]
          go_wp2_with fail
          all_goals go_meet
          all_goals first | exact ⟨⟨_, rfl, fun hx => of_decide_eq_true hx⟩, rfl⟩ | exact ⟨⟨false, rfl, fun hx => by cases hx⟩, rfl⟩ | exact ⟨⟨true, rfl, fun _ => by omega⟩, rfl⟩
      case rest =>
        obtain ⟨⟨x, rfl, hx⟩, rfl⟩ := hcut
        go_upto_if 65 with fail
        go_cut [16] (fun hv wy => (∃ s, hv = .string s) ∧ wc = wy)
        case first =>
          cases x
          · go_wp2_with fail
            go_meet
            exact ⟨⟨_, rfl⟩, rfl⟩
          · have hpos := hx rfl
            obtain ⟨g0, o0, rfl, hk0⟩ := hQin.kc.resolve_left (by omega)
            obtain ⟨q, hq⟩ : ∃ q : Nat, (pick.tdiv 2).tmod (n : Int) = (q : Int) ∧ q < n := by
              refine ⟨((pick.tdiv 2).tmod (n : Int)).toNat, ?_, ?_⟩
              · have := Int.tmod_nonneg (n : Int) (show (0 : Int) ≤ pick.tdiv 2 from Int.tdiv_nonneg hp0 (by decide))
                omega
              · have := Int.tmod_lt_of_pos (pick.tdiv 2) (show (0 : Int) < (n : Int) by omega)
                omega
            have hqc := cell_later hB (hk0 q (by omega))
            have hq1 := hq.1
            have hq0 : (0 : Int) ≤ (q : Int) := by omega
            have hq2 : (q : Int) < (l0 : Int) := by omega
            have hn9 : ¬ n = 0 := by omega
            have hd0 : 0 ≤ pick.tdiv 2 := Int.tdiv_nonneg hp0 (by decide)
            have hd1 : pick.tdiv 2 ≤ 255 := by
              rw [Int.tdiv_eq_ediv_of_nonneg hp0]; omega
            have hdw : IntKind.u8.wrap (pick.tdiv 2) = pick.tdiv 2 := by rw [IntKind.wrap_u8]; omega
            have hdi : IntKind.i64.wrap (pick.tdiv 2) = pick.tdiv 2 := by rw [IntKind.wrap_i64]; omega
            have hqw : IntKind.i64.wrap (q : Int) = (q : Int) := by rw [IntKind.wrap_i64]; omega
            go_wp2_with fail
            go_meet
            exact ⟨⟨_, rfl⟩, rfl⟩
        case rest =>
          obtain ⟨⟨hs, rfl⟩, rfl⟩ := hcut
          clear hx
          have hzl := hz.len
          have hBd : Below wc.heap.size wc (wc.alloc (.cells #[.int .i64 0, .string ⟨#[]⟩, .slice none 0 0, .string ⟨#[]⟩, .map mv] 29)) := (Below.refl _ wc).alloc (Nat.le_refl _) _
          have hcell : (wc.alloc (.cells #[.int .i64 0, .string ⟨#[]⟩, .slice none 0 0, .string ⟨#[]⟩, .map mv] 29)).cell? ⟨wc.heap.size, 4, none⟩ = some (.map mv) := by rw [cell_of_row _ _ _ _ _ _ (heap_alloc_new wc _)]; rfl
          have hEnt := entryText (wc.alloc (.cells #[.int .i64 0, .string ⟨#[]⟩, .slice none 0 0, .string ⟨#[]⟩, .map mv] 29)) wc.heap.size mv hs count hc64 (if nm = true then none else lastv K V n hs) ((hQin.tab.later hB).later hBd) hcell (fun w' hb => ((hz.later hBd).later hb).look hs)
          have hszd : wc.heap.size ≤ (wc.alloc (.cells #[.int .i64 0, .string ⟨#[]⟩, .slice none 0 0, .string ⟨#[]⟩, .map mv] 29)).heap.size := hBd.size
          go_upto_if 87 with (first | (go_at_call 4; refine hEnt.mono ?_; rintro e w3 ⟨rfl, hB3⟩) | (go_at_call 5; refine (cdec count hc64 _).mono ?_; rintro e w4 ⟨rfl, hB4⟩))
          generalize hwd : wc.alloc (.cells #[.int .i64 0, .string ⟨#[]⟩, .slice none 0 0, .string ⟨#[]⟩, .map mv] 29) = wd at *
          have hB34 : Below wc.heap.size wc w4 := (hBd.trans (hB3.mono hBd.size)).trans (hB4.mono (Nat.le_trans hBd.size hB3.size))
          have hz4 := hz.later hB34
          have hBw : Below w.heap.size w w4 := hB.trans (hB34.mono hB.size)
          clear hEnt hcell hB3 hB4 hBd hwd hz hzl hszd
          go_cut [20] (fun wv wy => wv = .string ((if nm = true then none else lastv K V n hs).getD (dec count)) ∧ w4 = wy)
          case first =>
            cases nm
            · go_wp2_with fail
              go_loopw [20, 21] (fun wv i wr => Lv K V n hs count w4 wv i wr) (fun _ i _ => n - (intOf i).toNat)
              case atStart => exact ⟨0, Nat.zero_le _, rfl, rfl, rfl⟩
              case round =>
                obtain ⟨k, hk, rfl, rfl, rfl⟩ := hrel
                by_cases hlt : k < n
                · obtain ⟨g0, o0, rfl, hk0⟩ := hQin.kc.resolve_left (by omega)
                  obtain ⟨g1, o1, rfl, hv0⟩ := hQin.vc.resolve_left (by omega)
                  have c0 := cell_later hBw (hk0 k (by omega))
                  have c1 := cell_later hBw (hv0 k (by omega))
                  have i0 : (0 : Int) ≤ (k : Int) := by omega
                  have i1 : (k : Int) < (l0 : Int) := by omega
                  have i2 : (k : Int) < (l1 : Int) := by omega
                  have i3 : (k : Int) < (n : Int) := by omega
                  by_cases e : hs = K k
                  · have he : ((K k).toList == hs.toList) = true := by rw [eq_toList]; simp [e]
                    have HL : Hid (lastv K V (k + 1) hs = some (V k)) := by simp [Hid, lastv, e]
                    clear e
                    go_wp2
                    exact ⟨⟨k + 1, hlt, by simp, by rw [HL.out]; rfl, rfl⟩, by simp [intOf]; omega⟩
                  · have he : ((K k).toList == hs.toList) = false := by rw [eq_toList]; simp; exact fun e' => e e'.symm
                    have HL : Hid (lastv K V (k + 1) hs = lastv K V k hs) := by simp [Hid, lastv, e]
                    go_wp2
                    exact ⟨⟨k + 1, hlt, by simp, by rw [HL.out], rfl⟩, by simp [intOf]; omega⟩
                · obtain rfl : k = n := by omega
                  go_wp2_with fail
                  go_meet
                  exact ⟨by simp, rfl⟩
            · go_wp2_with fail
              go_meet
              exact ⟨rfl, rfl⟩
          case rest =>
            obtain ⟨rfl, rfl⟩ := hcut
            have hzl := hz4.len
            generalize hG : (if nm = true then none else lastv K V n hs).getD (dec count) = G at *
            have hGG : (G.toList == G.toList) = true := by simp
            cases nm
            · go_wp2_with fail
              go_loopw [22] (fun i wz => ∃ q : Nat, q ≤ n ∧ i = .int .i64 q ∧ wz = w4) (fun i _ => n - (intOf i).toNat)
              case atStart => exact ⟨0, Nat.zero_le _, rfl, rfl⟩
              case round =>
                obtain ⟨q, hq, rfl, rfl⟩ := hrel
                by_cases hlt : q < n
                · obtain ⟨g0, o0, rfl, hk0⟩ := hQin.kc.resolve_left (by omega)
                  have c0 := cell_later hBw (hk0 q (by omega))
                  have i0 : (0 : Int) ≤ (q : Int) := by omega
                  have i1 : (q : Int) < (l0 : Int) := by omega
                  have i3 : (q : Int) < (n : Int) := by omega
                  obtain ⟨v, hv⟩ := lastv_some K V n q hlt
                  have hlk := hz4.look (K q)
                  simp only [Bool.false_eq_true, if_false, hv, lku] at hlk
                  clear hv
                  go_wp2
                  exact ⟨⟨q + 1, hlt, by simp, by first | rfl | trivial⟩, by simp [intOf]; omega⟩
                · obtain rfl : q = n := by omega
                  go_wp2
                  go_ret
                  exact ⟨rfl, hBw⟩
            · go_wp2
              go_ret
              exact ⟨rfl, hBw⟩

set_option maxHeartbeats 1000000 in
theorem law_q_long (w : World) (a0 : Option Addr) (l0 c0 : Nat) (a1 : Option Addr) (l1 c1 : Nat) (host : ByteArray) (count : Int) (pick : Int) (nm : Bool) (h : 1024 < l0 ∨ 1024 < l1) :
    Calls Ybad.prog 3 #[.slice a0 l0 c0, .slice a1 l1 c1, .string host, .int .u64 count, .int .u8 pick, .bool nm] w fun e w' => e = .returned (.bool true) ∧ Below w.heap.size w w' := by
  by_cases hn : 1024 < l0
  · have hn' : (1024 : Int) < (l0 : Int) := by omega
    go_enter Ybad.func3, Ybad.ntmps3
    go_wp2
    go_ret
    exact ⟨rfl, Below.refl _ _⟩
  · have hn' : ¬ (1024 : Int) < (l0 : Int) := by omega
    have ht' : (1024 : Int) < (l1 : Int) := by omega
    go_enter Ybad.func3, Ybad.ntmps3
    go_wp2
    go_ret
    exact ⟨rfl, Below.refl _ _⟩
end Cx
end Go.Proofs.YbulkcctkDoor
