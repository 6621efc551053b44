import Derived.Test.YbulkcctkDoorC1
import Derived.Deep.OwnRows
namespace Go.Proofs.YbulkcctkDoor
open Go.RowKit
namespace Cx

/-- the digits that lie from i on -/
def digs (bs : Nat → UInt8) (i : Nat) : List UInt8 := (List.range' i (20 - i)).map bs
def upd (bs : Nat → UInt8) (i : Nat) (d : UInt8) (j : Nat) : UInt8 := if j = i then d else bs j

theorem digs_step (bs : Nat → UInt8) (i : Nat) (d : UInt8) (hi : i < 20) : digs (upd bs i d) i = d :: digs bs (i + 1) := by
  unfold digs
  rw [show 20 - i = (20 - (i + 1)) + 1 by omega, List.range'_succ, List.map_cons]
  congr 1
  · simp [upd]
  · refine List.map_congr_left fun j hj => ?_
    have := List.mem_range'_1.1 hj
    simp [upd, show j ≠ i by omega]

def front (x : Nat) : List UInt8 := if x = 0 then [] else Lib.decDigits x
theorem front_step (x : Nat) (hx : 0 < x) : front x = front (x / 10) ++ [UInt8.ofNat (48 + x % 10)] := by
  unfold front
  rw [if_neg (by omega)]
  by_cases h : x < 10
  · rw [if_pos (by omega), Lib.decDigits, dif_pos h, Nat.mod_eq_of_lt h]
    rfl
  · rw [if_neg (by omega), Lib.decDigits, dif_neg h]
theorem front_length (x : Nat) (hx : 0 < x) : (front x).length = Lib.nDigits x := by
  unfold front
  rw [if_neg (by omega), Lib.decDigits_length]

def brow (bs : Nat → UInt8) (j : Nat) : Value := .int .u8 ((bs j).toNat : Int)

/-- the decoder between two rounds -/
def Zr (w : World) (u : Nat) (v i : Value) (wr : World) : Prop :=
  ∃ (x k : Nat) (bs : Nat → UInt8), v = .int .u64 (x : Nat) ∧ i = .int .i64 (k : Nat) ∧ k ≤ 20 ∧ x ≤ u ∧ (x < u → k < 20) ∧ Lib.decDigits u = front x ++ digs bs k ∧ wr.rowIs w.heap.size 37 20 (brow bs) ∧ Below w.heap.size w wr

set_option maxHeartbeats 4000000 in
set_option maxRecDepth 100000 in
theorem cdec (u : Nat) (hu64 : u < 18446744073709551616) (w : World) :
    Calls Ybad.prog 5 #[.int .u64 u] w fun e w' => e = .returned (.string ⟨(Lib.decDigits u).toArray⟩) ∧ Below w.heap.size w w' := by
  by_cases hu0 : u = 0
  · subst hu0
    have h0 : Lib.decDigits 0 = [48] := by rw [Lib.decDigits, dif_pos (by decide)]; rfl
    have HD : Hid (Lib.decDigits 0 = [48]) := h0
    clear h0
    go_enter Ybad.func5, Ybad.ntmps5
    go_wp2
    go_ret
    exact ⟨by rw [HD.out]; rfl, Below.refl _ _⟩
  · have hu1 : 1 ≤ u := by omega
    have hu2 : ¬ ((u : Int) = 0) := by omega
    have hnd20 : Lib.nDigits u ≤ 20 := by have := Lib.numDigits_eq u hu1 hu64; split at this <;> omega
    have hrow : (w.alloc (.cells (Array.replicate 20 (.int .u8 0)) 37)).rowIs w.heap.size 37 20 (brow fun _ => 0) := by
      have := World.rowIs_alloc w (Array.replicate 20 (.int .u8 0)) 37 (brow fun _ => 0) (fun i hi => by simp at hi; simp [brow, hi])
      simpa using this
    have hst : Zr w u (.int .u64 u) (.int .i64 20) (w.alloc (.cells (Array.replicate 20 (.int .u8 0)) 37)) :=
      ⟨u, 20, fun _ => 0, rfl, rfl, Nat.le_refl _, Nat.le_refl _, fun h => absurd h (Nat.lt_irrefl _), by simp [digs, front, hu0], hrow, (Below.refl _ w).alloc (Nat.le_refl _) _⟩
    clear hrow
    go_enter Ybad.func5, Ybad.ntmps5
    go_wp2_with fail
    go_loopw [0, 4] (fun v i wr => Zr w u v i wr) (fun v _ _ => (intOf v).toNat)
    case atStart => exact hst
    case round =>
      clear hst
      obtain ⟨x, k, bs, rfl, rfl, hk, hxu, hxk, hD, hr, hB⟩ := hrel
      by_cases hx : 0 < x
      · have hk1 : 0 < k := by
          have hl := congrArg List.length hD
          rw [List.length_append, Lib.decDigits_length, front_length x hx] at hl
          have h1 : 1 ≤ Lib.nDigits x := by rw [Lib.nDigits]; split <;> omega
          have h2 : (digs bs k).length = 20 - k := by simp [digs]
          omega
        obtain ⟨j, rfl⟩ : ∃ j, k = j + 1 := ⟨k - 1, by omega⟩
        have hx' : (0 : Int) < (x : Int) := by omega
        have hwk : IntKind.i64.wrap (((j + 1 : Nat) : Int) - 1) = (j : Int) := by rw [IntKind.wrap_i64]; omega
        have hmod : ((x : Int)).tmod 10 = ((x % 10 : Nat) : Int) := by rw [Int.tmod_eq_emod_of_nonneg (by omega)]; omega
        have hdiv : ((x : Int)).tdiv 10 = ((x / 10 : Nat) : Int) := by rw [Int.tdiv_eq_ediv_of_nonneg (by omega)]; omega
        have hj0 : (0 : Int) ≤ (j : Int) := by omega
        have hj1 : (j : Int) < 20 := by omega
        have hc := hr.cell (i := j) (by omega)
        have hf := hr.frozen j
        have hd : ((UInt8.ofNat (48 + x % 10)).toNat : Int) = 48 + ((x % 10 : Nat) : Int) := by simp; omega
        have hm10 : x % 10 < 10 := Nat.mod_lt _ (by decide)
        have hrs := (hr.set j (.int .u8 ((UInt8.ofNat (48 + x % 10)).toNat : Int))).congr (g := brow (upd bs j (UInt8.ofNat (48 + x % 10)))) (fun q _ => by
          unfold brow upd
          by_cases e : q = j
          · simp [e]
          · simp [e])
        rw [hd] at hrs
        have hbs := hB.setCell (p := ⟨w.heap.size, j, none⟩) (Nat.le_refl _) (.int .u8 (48 + ((x % 10 : Nat) : Int)))
        have hD' : Lib.decDigits u = front (x / 10) ++ digs (upd bs j (UInt8.ofNat (48 + x % 10))) j := by
          rw [hD, front_step x hx, digs_step _ _ _ (by omega), List.append_assoc]
          rfl
        generalize hR : x % 10 = R at *
        generalize hQ : x / 10 = Q at *
        clear hr hD hd
        have hQx : Q < x := by omega
        go_wp2
        exact ⟨⟨Q, j, _, rfl, rfl, by omega, by omega, fun _ => by omega, hD', hrs, hbs⟩, by simp [intOf]; omega⟩
      · obtain rfl : x = 0 := by omega
        have hk20 : k < 20 := hxk (by omega)
        have hD0 : Lib.decDigits u = digs bs k := by rw [hD]; rfl
        have hal : Ybad.prog.arrayLen 37 = 20 := by kernel_rfl
        have hsl : ∀ W, (Instr.sliceAt 37 (.pointer (some ⟨w.heap.size, 0, none⟩)) (some (.int .i64 (k : Int))) none none).run Ybad.prog W = .ok (.slice (some ⟨w.heap.size, k, none⟩) (20 - k) (20 - k)) W := fun W => by
          rw [run_sliceAt_array_l W 37 ⟨w.heap.size, 0, none⟩ (by kernel_rfl) .i64 (k : Int) (by omega) (by rw [hal]; omega)]
          go_simp
          omega
        have hcv : (convert 38 9 (.slice (some ⟨w.heap.size, k, none⟩) (20 - k) (20 - k))).run Ybad.prog wr = .ok (.string ⟨(Lib.decDigits u).toArray⟩) wr := by
          have hlen : (digs bs k).length = 20 - k := by simp [digs]
          have h := run_convert_bytes_back (P := Ybad.prog) wr 38 9 5 ⟨w.heap.size, k, none⟩ (20 - k) (digs bs k) Ybad.underlying38 Ybad.underlying5 Ybad.underlying9 (fun j hj => by
            rw [Lib.add_plain, hr.cell (i := k + j) (by omega)]
            simp [digs, brow])
          rw [hlen, ← hD0] at h
          exact h
        clear hD hD0 hal
        go_wp2
        go_ret
        exact ⟨rfl, hB⟩
end Cx
end Go.Proofs.YbulkcctkDoor
