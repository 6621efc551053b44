import Derived.Test.YbulkcctkDoorC2
import Derived.MapKept
import Derived.Carry
import Derived.ChangeMaps
namespace Go.Proofs.YbulkcctkDoor
open Go.RowKit
namespace Cx

/-! ### a map from strings to strings, by its entries -/
def ent (x : ByteArray × ByteArray × Nat) : MapEntry := ⟨.string x.1, .string x.2.1, x.2.2⟩
def mp (L : List (ByteArray × ByteArray × Nat)) : Array MapEntry := (L.map ent).toArray

def fnd (s : ByteArray) : List (ByteArray × ByteArray × Nat) → Nat → Option (Nat × ByteArray)
  | [], _ => none
  | x :: l, i => if s = x.1 then some (i, x.2.1) else fnd s l (i + 1)

def get (s : ByteArray) : List (ByteArray × ByteArray × Nat) → Option ByteArray
  | [] => none
  | x :: l => if s = x.1 then some x.2.1 else get s l

def ins (k v : ByteArray) (c : Nat) : List (ByteArray × ByteArray × Nat) → List (ByteArray × ByteArray × Nat)
  | [] => [(k, v, c)]
  | x :: l => if k = x.1 then (k, v, x.2.2) :: l else x :: ins k v c l

theorem get_ins (s k v : ByteArray) (c : Nat) : ∀ L, get s (ins k v c L) = if s = k then some v else get s L
  | [] => by simp [ins, get]
  | x :: l => by
    by_cases h : k = x.1
    · simp only [ins, if_pos h, get]
      by_cases e : s = k
      · simp [e]
      · have : s ≠ x.1 := fun e' => e (e'.trans h.symm)
        simp [e, this]
    · simp only [ins, if_neg h, get, get_ins s k v c l]
      by_cases e : s = x.1
      · have : s ≠ k := fun e' => h (e'.symm.trans e)
        simp [e]
        intro h'
        exact absurd h'.symm h
      · simp [e]

theorem fnd_get (s : ByteArray) : ∀ L i, (fnd s L i).map (·.2) = get s L
  | [], _ => rfl
  | x :: l, i => by
    by_cases e : s = x.1
    · simp [fnd, get, e]
    · simp only [fnd, get, if_neg e]; exact fnd_get s l (i + 1)

theorem fnd_ge (s : ByteArray) : ∀ L i p v, fnd s L i = some (p, v) → i ≤ p
  | [], _, _, _, h => by cases h
  | x :: l, i, p, v, h => by
    by_cases e : s = x.1
    · simp [fnd, e] at h; omega
    · simp only [fnd, if_neg e] at h
      have := fnd_ge s l (i + 1) p v h
      omega

theorem ins_some (k v : ByteArray) (c : Nat) : ∀ L i p v0, fnd k L i = some (i + p, v0) → (L.map ent).modify p (fun e => { e with key := .string k, val := .string v }) = (ins k v c L).map ent
  | [], _, _, _, h => by cases h
  | x :: l, i, p, v0, h => by
    by_cases e : k = x.1
    · simp only [fnd, if_pos e, Option.some.injEq, Prod.mk.injEq] at h
      obtain rfl : p = 0 := by omega
      simp [ins, e, ent]
    · simp only [fnd, if_neg e] at h
      have hg := fnd_ge k l (i + 1) _ _ h
      obtain ⟨q, rfl⟩ : ∃ q, p = q + 1 := ⟨p - 1, by omega⟩
      have := ins_some k v c l (i + 1) q v0 (by rw [h]; congr 2; omega)
      simp only [ins, if_neg e, List.map_cons, List.modify_succ_cons, this]

theorem ins_none (k v : ByteArray) (c : Nat) : ∀ L i, fnd k L i = none → L.map ent ++ [ent (k, v, c)] = (ins k v c L).map ent
  | [], _, _ => by simp [ins]
  | x :: l, i, h => by
    by_cases e : k = x.1
    · simp [fnd, e] at h
    · simp only [fnd, if_neg e] at h
      simp only [ins, if_neg e, List.map_cons, List.cons_append, ins_none k v c l (i + 1) h]

theorem ba_beq (a b : ByteArray) : (a == b) = decide (a = b) := by
  obtain ⟨a⟩ := a
  obtain ⟨b⟩ := b
  show (a == b) = _
  by_cases h : a = b
  · subst h; simp
  · have : (a == b) = false := by simpa using h
    simp [this, h]

theorem fnd_at (s : ByteArray) : ∀ L i p v, fnd s L i = some (i + p, v) → ∃ x, L[p]? = some x ∧ x.1 = s
  | [], _, _, _, h => by cases h
  | x :: l, i, p, v, h => by
    by_cases e : s = x.1
    · simp only [fnd, if_pos e, Option.some.injEq, Prod.mk.injEq] at h
      obtain rfl : p = 0 := by omega
      exact ⟨x, rfl, e.symm⟩
    · simp only [fnd, if_neg e] at h
      have hg := fnd_ge s l (i + 1) _ _ h
      obtain ⟨q, rfl⟩ : ∃ q, p = q + 1 := ⟨p - 1, by omega⟩
      exact fnd_at s l (i + 1) q v (by rw [h]; congr 2; omega)

theorem findNow_str (s : ByteArray) : ∀ L i, Instr.findNow .string (.string s) (L.map ent) i = some ((fnd s L i).map fun y => (y.1, Value.string y.2))
  | [], _ => rfl
  | x :: l, i => by
    have hs : Instr.sameNow .string (.string s) (ent x).key = some (s == x.1) := rfl
    rw [ba_beq] at hs
    by_cases e : s = x.1
    · rw [decide_eq_true e] at hs
      simp only [List.map_cons, Instr.findNow, hs, fnd, if_pos e, Option.map_some]
      rfl
    · rw [decide_eq_false e] at hs
      simp only [List.map_cons, Instr.findNow, hs, fnd, if_neg e]
      exact findNow_str s l (i + 1)

theorem run_findKey (s : ByteArray) (L : List (ByteArray × ByteArray × Nat)) (w : World) : (Instr.findKey 9 (.string s) (mp L).toList).run Ybad.prog w = .ok ((fnd s L 0).map fun y => (y.1, Value.string y.2)) w := by
  have : (mp L).toList = L.map ent := by simp [mp]
  simp [Instr.findKey, run_underlying Ybad.underlying9, this, findNow_str]

theorem run_checkKey (b : Bool) (s : ByteArray) (w : World) : (Instr.checkKey b 10000 9 (.string s)).run Ybad.prog w = .ok () w := by
  have h : ∀ d : Nat, (Instr.checkKey b (d + 1) 9 (.string s)).run Ybad.prog w = .ok () w := fun d => by simp [Instr.checkKey, run_underlying Ybad.underlying9]
  exact h 9999

/-- what a look-up with 'ok' gives -/
def lku (o : Option ByteArray) : Value := match o with
  | some v => .tuple #[.string v, .bool true]
  | none => .tuple #[.string ⟨#[]⟩, .bool false]

theorem run_lookup (s : ByteArray) (L : List (ByteArray × ByteArray × Nat)) (clock mb : Nat) (w : World) (hm : w.heap[mb]? = some (.map (mp L) clock)) :
    (Instr.lookup 24 (.map (some mb)) (.string s) true).run Ybad.prog w = .ok (lku (get s L)) w := by
  have hg := fnd_get s L 0
  cases hf : fnd s L 0 with
  | none =>
    rw [hf] at hg
    simp only [Option.map_none] at hg
    simp [Instr.lookup, run_underlying Ybad.underlying24, MapKept.run_getObj_map hm, run_checkKey, run_findKey, hf, Result.andThen, ← hg, lku]
  | some y =>
    rw [hf] at hg
    simp only [Option.map_some] at hg
    simp [Instr.lookup, run_underlying Ybad.underlying24, MapKept.run_getObj_map hm, run_checkKey, run_findKey, hf, Result.andThen, ← hg, lku]

theorem run_lookup_nil (s : ByteArray) (w : World) : (Instr.lookup 24 (.map none) (.string s) true).run Ybad.prog w = .ok (lku none) w := by
  have h := run_findKey s [] w
  have e : (mp []).toList = [] := rfl
  rw [e] at h
  simp [Instr.lookup, run_underlying Ybad.underlying24, run_checkKey, h, fnd, Result.andThen, lku]

theorem run_update (k v : ByteArray) (L : List (ByteArray × ByteArray × Nat)) (clock mb : Nat) (w : World) (hm : w.heap[mb]? = some (.map (mp L) clock)) :
    ∃ c', (Instr.mapUpdate 24 (.map (some mb)) (.string k) (.string v)).run Ybad.prog w = .ok () (ChangeMaps.setBlock w mb (.map (mp (ins k v clock L)) c')) := by
  cases hf : fnd k L 0 with
  | none =>
    refine ⟨clock + 1, ?_⟩
    have hp : (mp L).push { key := .string k, val := .string v, born := clock } = mp (ins k v clock L) := by
      unfold mp
      rw [← ins_none k v clock L 0 hf]
      simp [ent]
    simp [Instr.mapUpdate, run_underlying Ybad.underlying24, MapKept.run_getObj_map hm, run_checkKey, run_findKey, hf, MapKept.run_setObj_map _ hm, Result.andThen, ChangeMaps.setBlock, hp]
  | some y =>
    obtain ⟨p, v0⟩ := y
    refine ⟨clock, ?_⟩
    have hmod : (mp L).modify p (fun e => { e with key := .string k, val := .string v }) = mp (ins k v clock L) := by
      unfold mp
      rw [← ins_some k v clock L 0 p v0 (by rw [hf]; simp)]
      apply Array.toList_inj.1
      simp
    obtain ⟨x, hx, hxk⟩ := fnd_at k L 0 p v0 (by rw [hf]; simp)
    have hkey : (mp L)[p]? = some (ent x) := by simp [mp, hx]
    have hsame : Instr.sameBits 10000 (.string k) (.string k) = true := by
      have h : ∀ d, Instr.sameBits d (.string k) (.string k) = true := fun d => by
        cases d <;> simp [Instr.sameBits, ba_beq]
      exact h _
    have hstay : (Instr.keyThatStays (.string k) (.string k)).run Ybad.prog w = .ok (.string k) w := by simp [Instr.keyThatStays, hsame]
    have hk2 : (ent x).key = .string k := by rw [← hxk]; rfl
    simp [Instr.mapUpdate, run_underlying Ybad.underlying24, MapKept.run_getObj_map hm, run_checkKey, run_findKey, hf, MapKept.run_setObj_map _ hm, Result.andThen, ChangeMaps.setBlock, hkey, hk2, hstay, hmod]
end Cx
end Go.Proofs.YbulkcctkDoor
