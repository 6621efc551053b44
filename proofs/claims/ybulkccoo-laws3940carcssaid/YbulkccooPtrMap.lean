/-
  A map keyed by POINTERS into one row of the call's own ('counts[&sets[j]]'): what lookup, store and len do, as run equations. The kit's 'Keyed' serves integers, bools, strings; here by hand from the model's text.
-/
import Derived.Test.YbulkccooMem
import Derived.LaidEqlPtr
namespace Go.Proofs.Ybulkccoo
open Go.RowKit Gx

theorem Yba.info41 : ∃ j, Yba.prog.info? 41 = some j ∧ j.size = 3 := by
  have h : (Yba.prog.info? 41).map (fun i => i.size) = some 3 := by kernel_rfl
  obtain ⟨i, hi, hs⟩ := Option.map_eq_some_iff.1 h
  exact ⟨i, hi, hs⟩

def mkE (sb : Nat) (W : Nat → Int) (j : Nat) : MapEntry := ⟨.pointer (some ⟨sb, j * 3, none⟩), .int .i64 (W j), j⟩
def mkEs (sb : Nat) (W : Nat → Int) (m : Nat) : Array MapEntry := ((List.range m).map (mkE sb W)).toArray

theorem mkEs_size (sb : Nat) (W : Nat → Int) (m : Nat) : (mkEs sb W m).size = m := by simp [mkEs]
theorem mkEs_push (sb : Nat) (W : Nat → Int) (m : Nat) : (mkEs sb W m).push (mkE sb W m) = mkEs sb W (m + 1) := by
  simp [mkEs, List.range_succ]
theorem mkEs_congr {sb : Nat} {W W' : Nat → Int} {m : Nat} (h : ∀ j, j < m → W j = W' j) : mkEs sb W m = mkEs sb W' m := by
  unfold mkEs
  congr 1
  refine List.map_congr_left fun j hj => ?_
  simp only [mkE, h j (List.mem_range.1 hj)]

theorem run_equal_at (w : World) (sb x o : Nat) {c : Array Value} {t : TypeId} (hs : w.heap[sb]? = some (.cells c t (0, 0))) :
    (Op.equal 54 (.pointer (some ⟨sb, x, none⟩)) (.pointer (some ⟨sb, o, none⟩))).run Yba.prog w = .ok (x == o) w := by
  obtain ⟨j, hj, hz⟩ := Yba.info41
  have hz' : j.size ≠ 0 := by omega
  have hp : Yba.prog.underlying 54 = some (.pointer 41) := Yba.underlying54
  by_cases e : x = o
  · subst e
    have h : ∀ d : Nat, (Op.equalIn (d + 1) 54 (.pointer (some ⟨sb, x, none⟩)) (.pointer (some ⟨sb, x, none⟩))).run Yba.prog w = .ok true w := fun d => by
      simp [Op.equalIn, run_underlying hp, sizeOf, typeInfo, hj, run_sameAddr_same]
    rw [beq_self_eq_true]
    exact h 9999
  · have hne : (⟨sb, x, none⟩ : Addr) ≠ ⟨sb, o, none⟩ := by
      intro h
      simp at h
    have hb : (x == o) = false := by simp [e]
    have h : ∀ d : Nat, (Op.equalIn (d + 1) 54 (.pointer (some ⟨sb, x, none⟩)) (.pointer (some ⟨sb, o, none⟩))).run Yba.prog w = .ok false w := fun d => by
      simp [Op.equalIn, run_underlying hp, sizeOf, typeInfo, hj, hz', run_sameAddr_other w hne hs hs]
    rw [hb]
    exact h 9999

def goFind (W : Nat → Int) (x : Nat) : List Nat → Nat → Option (Nat × Value)
  | [], _ => none
  | j :: l, i => if x = j * 3 then some (i, .int .i64 (W j)) else goFind W x l (i + 1)

theorem run_findAsking (w : World) (sb x : Nat) (W : Nat → Int) {c : Array Value} {t : TypeId} (hs : w.heap[sb]? = some (.cells c t (0, 0))) :
    ∀ (l : List Nat) (i : Nat), (Instr.findAsking 54 (.pointer (some ⟨sb, x, none⟩)) (l.map (mkE sb W)) i).run Yba.prog w = .ok (goFind W x l i) w
  | [], i => by simp [Instr.findAsking, goFind]
  | j :: l, i => by
    simp only [List.map_cons, Instr.findAsking, goFind]
    simp only [mkE, Sem.run_bind, run_equal_at w sb x (j * 3) hs, Result.andThen_ok]
    by_cases e : x = j * 3
    · simp [e]
    · simp only [beq_eq_false_iff_ne.2 e, Bool.false_eq_true, if_false, if_neg e]
      exact run_findAsking w sb x W hs l (i + 1)

theorem goFind_at (W : Nat → Int) (j : Nat) : ∀ (m a i : Nat), goFind W (j * 3) (List.range' a m) i = if a ≤ j ∧ j < a + m then some (i + (j - a), .int .i64 (W j)) else none
  | 0, a, i => by
    rw [if_neg (by omega)]
    rfl
  | m + 1, a, i => by
    rw [List.range'_succ]
    simp only [goFind]
    by_cases e : j = a
    · subst e
      rw [if_pos rfl, if_pos (by omega)]
      simp
    · rw [if_neg (by omega), goFind_at W j m (a + 1) (i + 1)]
      by_cases h : a + 1 ≤ j ∧ j < a + 1 + m
      · rw [if_pos h, if_pos (by omega)]
        have : i + 1 + (j - (a + 1)) = i + (j - a) := by omega
        rw [this]
      · rw [if_neg h, if_neg (by omega)]

theorem findNow_none (k : Value) (te : TypeId) : ∀ (l : List MapEntry), l ≠ [] → Instr.findNow (.pointer te) k l 0 = none
  | [], h => absurd rfl h
  | e :: l, _ => by
    have : Instr.sameNow (.pointer te) k e.key = none := by cases k <;> cases e.key <;> rfl
    simp [Instr.findNow, this]

theorem run_findKey_at (w : World) (sb j m : Nat) (W : Nat → Int) {c : Array Value} {t : TypeId} (hs : w.heap[sb]? = some (.cells c t (0, 0))) :
    (Instr.findKey 54 (.pointer (some ⟨sb, j * 3, none⟩)) (mkEs sb W m).toList).run Yba.prog w = .ok (if j < m then some (j, .int .i64 (W j)) else none) w := by
  have hp : Yba.prog.underlying 54 = some (.pointer 41) := Yba.underlying54
  by_cases h0 : m = 0
  · subst h0
    simp [Instr.findKey, run_underlying hp, mkEs, Instr.findNow]
  · have hne : (mkEs sb W m).toList ≠ [] := by
      intro h
      have := congrArg List.length h
      simp [mkEs_size] at this
      omega
    simp only [Instr.findKey, Sem.run_bind, run_underlying hp, Result.andThen_ok, findNow_none _ 41 _ hne]
    have hl : (mkEs sb W m).toList = (List.range m).map (mkE sb W) := by simp [mkEs]
    rw [hl, run_findAsking w sb (j * 3) W hs (List.range m) 0, List.range_eq_range', goFind_at]
    simp

theorem run_checkKey_ptr (w : World) (b : Bool) (k : Option Addr) : (Instr.checkKey b 10000 54 (.pointer k)).run Yba.prog w = .ok () w := by
  have hp : Yba.prog.underlying 54 = some (.pointer 41) := Yba.underlying54
  have h : ∀ d : Nat, (Instr.checkKey b (d + 1) 54 (.pointer k)).run Yba.prog w = .ok () w := fun d => by simp [Instr.checkKey, run_underlying hp]
  exact h 9999

theorem zero3 (w : World) : (zeroValue 3).run Yba.prog w = .ok (.int .i64 0) w := by kernel_rfl

/-- 'v, ok := m[&sets[j]]' and 'm[&sets[j]]'. -/
theorem run_lookup_at (w : World) (sb mb j m clock : Nat) (W : Nat → Int) (ok : Bool) {c : Array Value} {t : TypeId} (hs : w.heap[sb]? = some (.cells c t (0, 0))) (hm : w.heap[mb]? = some (.map (mkEs sb W m) clock)) (hj : j < m) :
    (Instr.lookup 53 (.map (some mb)) (.pointer (some ⟨sb, j * 3, none⟩)) ok).run Yba.prog w = .ok (if ok then .tuple #[.int .i64 (W j), .bool true] else .int .i64 (W j)) w := by
  have ht : Yba.prog.underlying 53 = some (.map 54 3) := Yba.underlying53
  simp [Instr.lookup, run_underlying ht, MapKept.run_getObj_map hm, run_checkKey_ptr, run_findKey_at w sb j m W hs, hj, Result.andThen]

/-- 'm[&sets[j]] = x', the key new. -/
theorem run_mapUpdate_at (w : World) (sb mb m : Nat) (W : Nat → Int) {c : Array Value} {t : TypeId} (hs : w.heap[sb]? = some (.cells c t (0, 0))) (hm : w.heap[mb]? = some (.map (mkEs sb W m) m)) :
    (Instr.mapUpdate 53 (.map (some mb)) (.pointer (some ⟨sb, m * 3, none⟩)) (.int .i64 (W m))).run Yba.prog w = .ok () (ChangeMaps.setBlock w mb (.map (mkEs sb W (m + 1)) (m + 1))) := by
  have ht : Yba.prog.underlying 53 = some (.map 54 3) := Yba.underlying53
  have hpush : (mkEs sb W m).push { key := .pointer (some ⟨sb, m * 3, none⟩), val := .int .i64 (W m), born := m } = mkEs sb W (m + 1) := mkEs_push sb W m
  simp [Instr.mapUpdate, run_underlying ht, MapKept.run_getObj_map hm, run_checkKey_ptr, run_findKey_at w sb m m W hs, MapKept.run_setObj_map _ hm, Result.andThen, ChangeMaps.setBlock, hpush]

/-- The table of counts, in memory. -/
structure CtIn (sb mb m : Nat) (W : Nat → Int) (w : World) : Prop where
  sets : ∃ c, w.heap[sb]? = some (.cells c 41 (0, 0))
  map : w.heap[mb]? = some (.map (mkEs sb W m) m)

theorem CtIn.lt {sb mb m : Nat} {W : Nat → Int} {w : World} (h : CtIn sb mb m W w) : sb < w.heap.size ∧ mb < w.heap.size := by
  obtain ⟨c, hc⟩ := h.sets
  exact ⟨(Array.getElem?_eq_some_iff.1 hc).1, (Array.getElem?_eq_some_iff.1 h.map).1⟩

theorem CtIn.below {sb mb m : Nat} {W : Nat → Int} {w w' : World} (h : CtIn sb mb m W w) (hb : Below w.heap.size w w') : CtIn sb mb m W w' := by
  have hl := h.lt
  obtain ⟨c, hc⟩ := h.sets
  exact ⟨⟨c, (hb.block _ hl.1).trans hc⟩, (hb.block _ hl.2).trans h.map⟩

theorem CtIn.look {sb mb m j : Nat} {W : Nat → Int} {w : World} (h : CtIn sb mb m W w) (ok : Bool) (hj : j < m) :
    (Instr.lookup 53 (.map (some mb)) (.pointer (some ⟨sb, j * 3, none⟩)) ok).run Yba.prog w = .ok (if ok then .tuple #[.int .i64 (W j), .bool true] else .int .i64 (W j)) w := by
  obtain ⟨c, hc⟩ := h.sets
  exact run_lookup_at w sb mb j m m W ok hc h.map hj

/-- '(*charClasses).count' where the set is in the table. -/
theorem count_hit (w : World) (cb mb : Nat) (k : Addr) (x : Int)
    (hc : w.cell? ⟨cb, 3, none⟩ = some (.map (some mb)))
    (hl : (Instr.lookup 53 (.map (some mb)) (.pointer (some k)) true).run Yba.prog w = .ok (.tuple #[.int .i64 x, .bool true]) w) :
    Calls Yba.prog 18 #[.pointer (some ⟨cb, 0, none⟩), .pointer (some k)] w fun e w' => e = .returned (.int .i64 x) ∧ w' = w := by
  go_enter Yba.func18, Yba.ntmps18
  go_wp2
  go_ret
  exact ⟨rfl, rfl⟩

end Go.Proofs.Ybulkccoo
