import Derived.Lib.VarintDec
import Derived.Lib.Varint
namespace Go.Proofs.YbulkcctkFmt
namespace Bx
open Go.Lib

/-- one uvarint at the front: its value and its size -/
def step (l : List UInt8) : Option (Nat × Nat) := if (uvarintDec l).2 ≤ 0 then none else some ((uvarintDec l).1, (uvarintDec l).2.toNat)

/-- n uvarints at the front: their values, and how many bytes they take -/
def decs (l : List UInt8) : Nat → Option (List Nat × Nat)
  | 0 => some ([], 0)
  | n + 1 => (decs l n).bind fun x => (step (l.drop x.2)).map fun y => (x.1 ++ [y.1], x.2 + y.2)

theorem from_size : ∀ (l : List UInt8) (i acc : Nat), 0 < (uvarintFrom i acc l).2 → i < (uvarintFrom i acc l).2.toNat ∧ (uvarintFrom i acc l).2.toNat ≤ i + l.length
  | [], i, acc, h => by simp [uvarintFrom] at h
  | b :: r, i, acc, h => by
    simp only [uvarintFrom] at h ⊢
    by_cases h10 : i = 10
    · rw [if_pos h10] at h; simp at h; omega
    · rw [if_neg h10] at h ⊢
      by_cases hb : b.toNat < 128
      · rw [if_pos hb] at h ⊢
        by_cases h9 : i = 9 ∧ 1 < b.toNat
        · rw [if_pos h9] at h; simp at h; omega
        · rw [if_neg h9] at h ⊢
          simp only [List.length_cons]
          omega
      · rw [if_neg hb] at h ⊢
        have := from_size r (i + 1) _ h
        simp only [List.length_cons]
        omega

theorem step_size {l : List UInt8} {v k : Nat} (h : step l = some (v, k)) : 0 < k ∧ k ≤ l.length ∧ v < 18446744073709551616 := by
  unfold step at h
  by_cases h0 : (uvarintDec l).2 ≤ 0
  · rw [if_pos h0] at h; cases h
  · rw [if_neg h0] at h
    simp only [Option.some.injEq, Prod.mk.injEq] at h
    obtain ⟨rfl, rfl⟩ := h
    have h1 := from_size l 0 0 (by show 0 < (uvarintDec l).2; omega)
    have h2 : (uvarintFrom 0 0 l).2 = (uvarintDec l).2 := rfl
    rw [h2] at h1
    have h3 := uvarintDec_lt l
    omega

theorem decs_succ {l : List UInt8} {n m v k : Nat} {vs : List Nat} (h : decs l n = some (vs, m)) (hs : step (l.drop m) = some (v, k)) : decs l (n + 1) = some (vs ++ [v], m + k) := by
  simp [decs, h, hs]
theorem decs_stop {l : List UInt8} {n m : Nat} {vs : List Nat} (h : decs l n = some (vs, m)) (hs : step (l.drop m) = none) : decs l (n + 1) = none := by
  simp [decs, h, hs]
theorem decs_none {l : List UInt8} {n : Nat} (h : decs l n = none) : ∀ k, decs l (n + k) = none
  | 0 => h
  | k + 1 => by
    have := decs_none h k
    show decs l (n + k + 1) = none
    simp [decs, this]
theorem decs_size {l : List UInt8} : ∀ {n m : Nat} {vs : List Nat}, decs l n = some (vs, m) → vs.length = n ∧ m ≤ l.length ∧ ∀ v ∈ vs, v < 18446744073709551616
  | 0, m, vs, h => by
    simp only [decs, Option.some.injEq, Prod.mk.injEq] at h
    obtain ⟨rfl, rfl⟩ := h
    simp
  | n + 1, m, vs, h => by
    simp only [decs, Option.bind_eq_some_iff, Option.map_eq_some_iff] at h
    obtain ⟨⟨vs', m'⟩, h1, ⟨v, k⟩, h2, h3⟩ := h
    simp only [Prod.mk.injEq] at h3
    obtain ⟨rfl, rfl⟩ := h3
    obtain ⟨a, b, c⟩ := decs_size h1
    have := step_size h2
    simp only [List.length_drop] at this
    refine ⟨by simp [a], by omega, fun v hv => ?_⟩
    simp only [List.mem_append, List.mem_singleton] at hv
    rcases hv with hv | rfl
    · exact c v hv
    · exact this.2.2

/-- a byte below 128 -/
theorem step_one (b : UInt8) (r : List UInt8) (h : b.toNat < 128) : step (b :: r) = some (b.toNat, 1) := by
  have : uvarintDec (b :: r) = (b.toNat, 1) := by simp [uvarintDec, uvarintFrom, h]
  simp [step, this]
/-- two bytes -/
theorem step_two (a b : UInt8) (r : List UInt8) (ha : ¬ a.toNat < 128) (h : b.toNat < 128) : step (a :: b :: r) = some (a.toNat % 128 + b.toNat * 128, 2) := by
  have : uvarintDec (a :: b :: r) = (a.toNat % 128 + b.toNat * 128, 2) := by simp [uvarintDec, uvarintFrom, ha, h]
  simp [step, this]

theorem from_uvarint : ∀ (d i : Nat), d + i = 9 → ∀ (x acc : Nat) (r : List UInt8), x < 2 ^ (1 + 7 * d) → uvarintFrom i acc (uvarint x ++ r) = (acc + x * 2 ^ (7 * i), (i : Int) + (uvarint x).length) := by
  intro d
  induction d with
  | zero =>
    intro i hi x acc r hx
    have hx2 : x < 2 := by simpa using hx
    have hn : (x.toUInt8).toNat = x := by simp; omega
    rw [uvarint_small (by omega)]
    simp only [List.cons_append, List.nil_append, uvarintFrom, hn]
    rw [if_neg (by omega), if_pos (by omega), if_neg (by omega)]
    simp
  | succ d ih =>
    intro i hi x acc r hx
    by_cases h : x < 128
    · have hn : (x.toUInt8).toNat = x := by simp; omega
      rw [uvarint_small h]
      simp only [List.cons_append, List.nil_append, uvarintFrom, hn]
      rw [if_neg (by omega), if_pos (by omega), if_neg (by omega)]
      simp
    · have hn : ((x % 128 + 128).toUInt8).toNat = x % 128 + 128 := by simp; omega
      rw [uvarint_big (by omega)]
      simp only [List.cons_append, uvarintFrom, hn]
      have hdiv : x / 128 < 2 ^ (1 + 7 * d) := by
        have e : 2 ^ (1 + 7 * (d + 1)) = 2 ^ (1 + 7 * d) * 128 := by rw [show 1 + 7 * (d + 1) = (1 + 7 * d) + 7 by omega, Nat.pow_add]
        rw [e] at hx
        exact Nat.div_lt_of_lt_mul (by rw [Nat.mul_comm]; exact hx)
      rw [if_neg (by omega), if_neg (by omega), ih (i + 1) (by omega) (x / 128) _ r hdiv]
      have e7 : 2 ^ (7 * (i + 1)) = 2 ^ (7 * i) * 128 := by rw [show 7 * (i + 1) = 7 * i + 7 by omega, Nat.pow_add]
      have em : (x % 128 + 128) % 128 = x % 128 := by omega
      rw [e7, em]
      have key : acc + x % 128 * 2 ^ (7 * i) + x / 128 * (2 ^ (7 * i) * 128) = acc + x * 2 ^ (7 * i) := by
        have hxd : x = x % 128 + x / 128 * 128 := by omega
        have : x * 2 ^ (7 * i) = (x % 128 + x / 128 * 128) * 2 ^ (7 * i) := by rw [← hxd]
        rw [this, Nat.add_mul, Nat.mul_assoc (x / 128), Nat.mul_comm 128, Nat.add_assoc]
      rw [key]
      simp only [List.length_cons, Prod.mk.injEq, true_and]
      omega

/-- WHAT IS ENCODED IS WHAT IS DECODED. -/
theorem step_uvarint {x : Nat} (hx : x < 18446744073709551616) (r : List UInt8) : step (uvarint x ++ r) = some (x, (uvarint x).length) := by
  have h : uvarintDec (uvarint x ++ r) = (0 + x * 2 ^ (7 * 0), ((0 : Nat) : Int) + (uvarint x).length) := from_uvarint 9 0 rfl x 0 r (by simpa using hx)
  have hp := uvarint_pos x
  unfold step
  rw [h]
  rw [if_neg (by show ¬ (((0 : Nat) : Int) + ((uvarint x).length : Int) ≤ 0); omega)]
  simp

/-- the encodings, one behind the other -/
def encs (vals : List Nat) : List UInt8 := (vals.map uvarint).flatten

theorem encs_append (a b : List Nat) : encs (a ++ b) = encs a ++ encs b := by simp [encs]
theorem encs_cons (v : Nat) (b : List Nat) : encs (v :: b) = uvarint v ++ encs b := by simp [encs]
theorem encs_one (v : Nat) : encs [v] = uvarint v := by simp [encs]

theorem decs_encs (vals : List Nat) (hv : ∀ v ∈ vals, v < 18446744073709551616) (tail : List UInt8) : ∀ i, i ≤ vals.length → decs (encs vals ++ tail) i = some (vals.take i, (encs (vals.take i)).length)
  | 0, _ => by simp [decs, encs]
  | i + 1, h => by
    have ih := decs_encs vals hv tail i (by omega)
    have hi : i < vals.length := by omega
    have hsplit : encs vals = encs (vals.take i) ++ (uvarint vals[i] ++ encs (vals.drop (i + 1))) := by
      have : vals = vals.take i ++ vals[i] :: vals.drop (i + 1) := by rw [List.getElem_cons_drop, List.take_append_drop]
      conv => lhs; rw [this]
      rw [encs_append, encs_cons]
    have hd : (encs vals ++ tail).drop (encs (vals.take i)).length = uvarint vals[i] ++ (encs (vals.drop (i + 1)) ++ tail) := by
      rw [hsplit]
      simp [List.append_assoc]
    have hs : step ((encs vals ++ tail).drop (encs (vals.take i)).length) = some (vals[i], (uvarint vals[i]).length) := by
      rw [hd]; exact step_uvarint (hv _ (List.getElem_mem _)) _
    rw [decs_succ ih hs]
    have ht : vals.take (i + 1) = vals.take i ++ [vals[i]] := by rw [List.take_succ_eq_append_getElem hi]
    rw [ht, encs_append, encs_one, List.length_append]
end Bx
end Go.Proofs.YbulkcctkFmt
