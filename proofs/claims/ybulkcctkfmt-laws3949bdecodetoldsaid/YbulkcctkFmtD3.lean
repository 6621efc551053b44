import Derived.Test.YbulkcctkFmtB2
namespace Go.Proofs.YbulkcctkFmt
open Go.RowKit
namespace Bx

/-- what the plain decoder answers -/
def zout (l : List UInt8) : Value := match step l with
  | some (v, k) => .tuple #[.int .u64 (v : Nat), .int .i64 (k : Nat), .bool true]
  | none => .tuple #[.int .u64 0, .int .i64 0, .bool false]

theorem zout_ok {l : List UInt8} {v k : Nat} (hk : 0 < k) (h : Lib.uvarintDec l = (v, (k : Int))) : .returned (.tuple #[.int .u64 (v : Nat), .int .i64 (k : Nat), .bool true]) = Ending.returned (zout l) := by
  have : step l = some (v, k) := by
    unfold step
    rw [h, if_neg (by show ¬ ((k : Int) ≤ 0); omega)]
    simp
  simp only [zout, this]
theorem zout_bad {l : List UInt8} (h : (Lib.uvarintDec l).2 ≤ 0) : .returned (.tuple #[.int .u64 0, .int .i64 0, .bool false]) = Ending.returned (zout l) := by
  have : step l = none := by unfold step; rw [if_pos h]
  simp only [zout, this]

/-- the decoder between two rounds: k bytes are read, each with the bit 128 -/
def Zrel (l : List UInt8) (vx vi : Value) : Prop :=
  ∃ k acc : Nat, vi = .int .i64 k ∧ vx = .int .u64 acc ∧ k ≤ 10 ∧ k ≤ l.length ∧ acc < 2 ^ (7 * k) ∧ Lib.uvarintDec l = Lib.uvarintFrom k acc (l.drop k)

set_option maxHeartbeats 16000000 in
set_option maxRecDepth 100000 in
theorem zdec_any (w : World) (p : Option Addr) (l : List UInt8) (c : Nat) (hb : Bs w p l) (hn : l.length ≤ 4096) :
    Calls Ybaf.prog 11 #[.slice p l.length c] w fun e w' => e = .returned (zout l) ∧ w' = w := by
  go_enter Ybaf.func11, Ybaf.ntmps11
  go_wp2
  go_loop [5, 6] (fun vx vi => Zrel l vx vi) (fun _ vi => l.length - (intOf vi).toNat)
  case atStart => exact ⟨0, 0, rfl, rfl, by omega, by omega, by decide, rfl⟩
  case round =>
    obtain ⟨k, acc, rfl, rfl, hk10, hkn, hacc, hdec⟩ := hrel
    by_cases hk : k < l.length ∧ k < 10
    · obtain ⟨g, o, rfl, hcell⟩ := hb.resolve_left (by rintro rfl; simp at hk)
      have hc := hcell k hk.1
      have hdrop : l.drop k = l[k]'(hk.1) :: l.drop (k + 1) := List.drop_eq_getElem_cons hk.1
      rw [hdrop] at hdec
      generalize l[k]'(hk.1) = b at hc hdec
      have hb256 : b.toNat < 256 := b.toNat_lt
      have hkl := hk.1
      have hkl' : (k : Int) < (l.length : Int) := by omega
      clear hcell hdrop hb
      have hks : k = 0 ∨ k = 1 ∨ k = 2 ∨ k = 3 ∨ k = 4 ∨ k = 5 ∨ k = 6 ∨ k = 7 ∨ k = 8 ∨ k = 9 := by omega
      clear hk
      rcases hks with rfl | rfl | rfl | rfl | rfl | rfl | rfl | rfl | rfl | rfl
      · skip
        have hc0 : w.cell? ⟨g, o, none⟩ = some (.int .u8 b.toNat) := hc
        obtain rfl : acc = 0 := by simpa using hacc
        by_cases hb : b.toNat < 128
        · skip
          have hor : bits .or .u64 0 (b.toNat : Int) = ((b.toNat : Nat) : Int) := by
            rw [u64_orv0 _ _ (by omega) (by omega) (by omega) (by omega) (by omega)]
            omega
          have hF : Lib.uvarintFrom 0 0 (b :: l.drop (0 + 1)) = (b.toNat, ((1 : Nat) : Int)) := by simp [Lib.uvarintFrom, hb]
          rw [hF] at hdec
          go_wp2
          go_ret3
          exact ⟨zout_ok (by decide) hdec, rfl⟩
        · have hv : bits .or .u64 0 (IntKind.u64.wrap (IntKind.u64.wrap (bits .and .u8 (b.toNat : Int) 127))) = ((b.toNat % 128 : Nat) : Int) := by
            simp (disch := omega) only [u8_and127, u64_wrap_id, u64_orv0]
            omega
          have hF : Lib.uvarintFrom 0 0 (b :: l.drop (0 + 1)) = Lib.uvarintFrom 1 (b.toNat % 128) (l.drop (0 + 1)) := by simp [Lib.uvarintFrom, hb]
          go_wp2
          refine ⟨⟨1, b.toNat % 128, rfl, (by first | rfl | (congr 1; omega)), by omega, by omega, ?_, hdec.trans hF⟩, by simp [intOf]; omega⟩
          show b.toNat % 128 < 2 ^ 7
          have e2 : (2 : Nat) ^ 7 = 128 := by decide
          omega
      · skip
        have hacc' : acc < 128 := by simpa using hacc
        by_cases hb : b.toNat < 128
        · skip
          have hor : bits .or .u64 (acc : Int) ((b.toNat : Int) * 128) = ((acc + b.toNat * 128 : Nat) : Int) := by
            rw [u64_orv7 _ _ (by omega) (by omega) (by omega) (by omega) (by omega)]
            omega
          have hF : Lib.uvarintFrom 1 acc (b :: l.drop (1 + 1)) = (acc + b.toNat * 128, ((2 : Nat) : Int)) := by simp [Lib.uvarintFrom, hb]
          rw [hF] at hdec
          go_wp2
          go_ret3
          exact ⟨zout_ok (by decide) hdec, rfl⟩
        · have hv : bits .or .u64 (acc : Int) (IntKind.u64.wrap (IntKind.u64.wrap (bits .and .u8 (b.toNat : Int) 127) * 128)) = ((acc + b.toNat % 128 * 128 : Nat) : Int) := by
            simp (disch := omega) only [u8_and127, u64_wrap_id, u64_orv7]
            omega
          have hF : Lib.uvarintFrom 1 acc (b :: l.drop (1 + 1)) = Lib.uvarintFrom 2 (acc + b.toNat % 128 * 128) (l.drop (1 + 1)) := by simp [Lib.uvarintFrom, hb]
          go_wp2
          refine ⟨⟨2, acc + b.toNat % 128 * 128, rfl, (by first | rfl | (congr 1; omega)), by omega, by omega, ?_, hdec.trans hF⟩, by simp [intOf]; omega⟩
          show acc + b.toNat % 128 * 128 < 2 ^ 14
          have e2 : (2 : Nat) ^ 14 = 16384 := by decide
          omega
      · skip
        have hacc' : acc < 16384 := by simpa using hacc
        by_cases hb : b.toNat < 128
        · skip
          have hor : bits .or .u64 (acc : Int) ((b.toNat : Int) * 16384) = ((acc + b.toNat * 16384 : Nat) : Int) := by
            rw [u64_orv14 _ _ (by omega) (by omega) (by omega) (by omega) (by omega)]
            omega
          have hF : Lib.uvarintFrom 2 acc (b :: l.drop (2 + 1)) = (acc + b.toNat * 16384, ((3 : Nat) : Int)) := by simp [Lib.uvarintFrom, hb]
          rw [hF] at hdec
          go_wp2
          go_ret3
          exact ⟨zout_ok (by decide) hdec, rfl⟩
        · have hv : bits .or .u64 (acc : Int) (IntKind.u64.wrap (IntKind.u64.wrap (bits .and .u8 (b.toNat : Int) 127) * 16384)) = ((acc + b.toNat % 128 * 16384 : Nat) : Int) := by
            simp (disch := omega) only [u8_and127, u64_wrap_id, u64_orv14]
            omega
          have hF : Lib.uvarintFrom 2 acc (b :: l.drop (2 + 1)) = Lib.uvarintFrom 3 (acc + b.toNat % 128 * 16384) (l.drop (2 + 1)) := by simp [Lib.uvarintFrom, hb]
          go_wp2
          refine ⟨⟨3, acc + b.toNat % 128 * 16384, rfl, (by first | rfl | (congr 1; omega)), by omega, by omega, ?_, hdec.trans hF⟩, by simp [intOf]; omega⟩
          show acc + b.toNat % 128 * 16384 < 2 ^ 21
          have e2 : (2 : Nat) ^ 21 = 2097152 := by decide
          omega
      · skip
        have hacc' : acc < 2097152 := by simpa using hacc
        by_cases hb : b.toNat < 128
        · skip
          have hor : bits .or .u64 (acc : Int) ((b.toNat : Int) * 2097152) = ((acc + b.toNat * 2097152 : Nat) : Int) := by
            rw [u64_orv21 _ _ (by omega) (by omega) (by omega) (by omega) (by omega)]
            omega
          have hF : Lib.uvarintFrom 3 acc (b :: l.drop (3 + 1)) = (acc + b.toNat * 2097152, ((4 : Nat) : Int)) := by simp [Lib.uvarintFrom, hb]
          rw [hF] at hdec
          go_wp2
          go_ret3
          exact ⟨zout_ok (by decide) hdec, rfl⟩
        · have hv : bits .or .u64 (acc : Int) (IntKind.u64.wrap (IntKind.u64.wrap (bits .and .u8 (b.toNat : Int) 127) * 2097152)) = ((acc + b.toNat % 128 * 2097152 : Nat) : Int) := by
            simp (disch := omega) only [u8_and127, u64_wrap_id, u64_orv21]
            omega
          have hF : Lib.uvarintFrom 3 acc (b :: l.drop (3 + 1)) = Lib.uvarintFrom 4 (acc + b.toNat % 128 * 2097152) (l.drop (3 + 1)) := by simp [Lib.uvarintFrom, hb]
          go_wp2
          refine ⟨⟨4, acc + b.toNat % 128 * 2097152, rfl, (by first | rfl | (congr 1; omega)), by omega, by omega, ?_, hdec.trans hF⟩, by simp [intOf]; omega⟩
          show acc + b.toNat % 128 * 2097152 < 2 ^ 28
          have e2 : (2 : Nat) ^ 28 = 268435456 := by decide
          omega
      · skip
        have hacc' : acc < 268435456 := by simpa using hacc
        by_cases hb : b.toNat < 128
        · skip
          have hor : bits .or .u64 (acc : Int) ((b.toNat : Int) * 268435456) = ((acc + b.toNat * 268435456 : Nat) : Int) := by
            rw [u64_orv28 _ _ (by omega) (by omega) (by omega) (by omega) (by omega)]
            omega
          have hF : Lib.uvarintFrom 4 acc (b :: l.drop (4 + 1)) = (acc + b.toNat * 268435456, ((5 : Nat) : Int)) := by simp [Lib.uvarintFrom, hb]
          rw [hF] at hdec
          go_wp2
          go_ret3
          exact ⟨zout_ok (by decide) hdec, rfl⟩
        · have hv : bits .or .u64 (acc : Int) (IntKind.u64.wrap (IntKind.u64.wrap (bits .and .u8 (b.toNat : Int) 127) * 268435456)) = ((acc + b.toNat % 128 * 268435456 : Nat) : Int) := by
            simp (disch := omega) only [u8_and127, u64_wrap_id, u64_orv28]
            omega
          have hF : Lib.uvarintFrom 4 acc (b :: l.drop (4 + 1)) = Lib.uvarintFrom 5 (acc + b.toNat % 128 * 268435456) (l.drop (4 + 1)) := by simp [Lib.uvarintFrom, hb]
          go_wp2
          refine ⟨⟨5, acc + b.toNat % 128 * 268435456, rfl, (by first | rfl | (congr 1; omega)), by omega, by omega, ?_, hdec.trans hF⟩, by simp [intOf]; omega⟩
          show acc + b.toNat % 128 * 268435456 < 2 ^ 35
          have e2 : (2 : Nat) ^ 35 = 34359738368 := by decide
          omega
      · skip
        have hacc' : acc < 34359738368 := by simpa using hacc
        by_cases hb : b.toNat < 128
        · skip
          have hor : bits .or .u64 (acc : Int) ((b.toNat : Int) * 34359738368) = ((acc + b.toNat * 34359738368 : Nat) : Int) := by
            rw [u64_orv35 _ _ (by omega) (by omega) (by omega) (by omega) (by omega)]
            omega
          have hF : Lib.uvarintFrom 5 acc (b :: l.drop (5 + 1)) = (acc + b.toNat * 34359738368, ((6 : Nat) : Int)) := by simp [Lib.uvarintFrom, hb]
          rw [hF] at hdec
          go_wp2
          go_ret3
          exact ⟨zout_ok (by decide) hdec, rfl⟩
        · have hv : bits .or .u64 (acc : Int) (IntKind.u64.wrap (IntKind.u64.wrap (bits .and .u8 (b.toNat : Int) 127) * 34359738368)) = ((acc + b.toNat % 128 * 34359738368 : Nat) : Int) := by
            simp (disch := omega) only [u8_and127, u64_wrap_id, u64_orv35]
            omega
          have hF : Lib.uvarintFrom 5 acc (b :: l.drop (5 + 1)) = Lib.uvarintFrom 6 (acc + b.toNat % 128 * 34359738368) (l.drop (5 + 1)) := by simp [Lib.uvarintFrom, hb]
          go_wp2
          refine ⟨⟨6, acc + b.toNat % 128 * 34359738368, rfl, (by first | rfl | (congr 1; omega)), by omega, by omega, ?_, hdec.trans hF⟩, by simp [intOf]; omega⟩
          show acc + b.toNat % 128 * 34359738368 < 2 ^ 42
          have e2 : (2 : Nat) ^ 42 = 4398046511104 := by decide
          omega
      · skip
        have hacc' : acc < 4398046511104 := by simpa using hacc
        by_cases hb : b.toNat < 128
        · skip
          have hor : bits .or .u64 (acc : Int) ((b.toNat : Int) * 4398046511104) = ((acc + b.toNat * 4398046511104 : Nat) : Int) := by
            rw [u64_orv42 _ _ (by omega) (by omega) (by omega) (by omega) (by omega)]
            omega
          have hF : Lib.uvarintFrom 6 acc (b :: l.drop (6 + 1)) = (acc + b.toNat * 4398046511104, ((7 : Nat) : Int)) := by simp [Lib.uvarintFrom, hb]
          rw [hF] at hdec
          go_wp2
          go_ret3
          exact ⟨zout_ok (by decide) hdec, rfl⟩
        · have hv : bits .or .u64 (acc : Int) (IntKind.u64.wrap (IntKind.u64.wrap (bits .and .u8 (b.toNat : Int) 127) * 4398046511104)) = ((acc + b.toNat % 128 * 4398046511104 : Nat) : Int) := by
            simp (disch := omega) only [u8_and127, u64_wrap_id, u64_orv42]
            omega
          have hF : Lib.uvarintFrom 6 acc (b :: l.drop (6 + 1)) = Lib.uvarintFrom 7 (acc + b.toNat % 128 * 4398046511104) (l.drop (6 + 1)) := by simp [Lib.uvarintFrom, hb]
          go_wp2
          refine ⟨⟨7, acc + b.toNat % 128 * 4398046511104, rfl, (by first | rfl | (congr 1; omega)), by omega, by omega, ?_, hdec.trans hF⟩, by simp [intOf]; omega⟩
          show acc + b.toNat % 128 * 4398046511104 < 2 ^ 49
          have e2 : (2 : Nat) ^ 49 = 562949953421312 := by decide
          omega
      · skip
        have hacc' : acc < 562949953421312 := by simpa using hacc
        by_cases hb : b.toNat < 128
        · skip
          have hor : bits .or .u64 (acc : Int) ((b.toNat : Int) * 562949953421312) = ((acc + b.toNat * 562949953421312 : Nat) : Int) := by
            rw [u64_orv49 _ _ (by omega) (by omega) (by omega) (by omega) (by omega)]
            omega
          have hF : Lib.uvarintFrom 7 acc (b :: l.drop (7 + 1)) = (acc + b.toNat * 562949953421312, ((8 : Nat) : Int)) := by simp [Lib.uvarintFrom, hb]
          rw [hF] at hdec
          go_wp2
          go_ret3
          exact ⟨zout_ok (by decide) hdec, rfl⟩
        · have hv : bits .or .u64 (acc : Int) (IntKind.u64.wrap (IntKind.u64.wrap (bits .and .u8 (b.toNat : Int) 127) * 562949953421312)) = ((acc + b.toNat % 128 * 562949953421312 : Nat) : Int) := by
            simp (disch := omega) only [u8_and127, u64_wrap_id, u64_orv49]
            omega
          have hF : Lib.uvarintFrom 7 acc (b :: l.drop (7 + 1)) = Lib.uvarintFrom 8 (acc + b.toNat % 128 * 562949953421312) (l.drop (7 + 1)) := by simp [Lib.uvarintFrom, hb]
          go_wp2
          refine ⟨⟨8, acc + b.toNat % 128 * 562949953421312, rfl, (by first | rfl | (congr 1; omega)), by omega, by omega, ?_, hdec.trans hF⟩, by simp [intOf]; omega⟩
          show acc + b.toNat % 128 * 562949953421312 < 2 ^ 56
          have e2 : (2 : Nat) ^ 56 = 72057594037927936 := by decide
          omega
      · skip
        have hacc' : acc < 72057594037927936 := by simpa using hacc
        by_cases hb : b.toNat < 128
        · skip
          have hor : bits .or .u64 (acc : Int) ((b.toNat : Int) * 72057594037927936) = ((acc + b.toNat * 72057594037927936 : Nat) : Int) := by
            rw [u64_orv56 _ _ (by omega) (by omega) (by omega) (by omega) (by omega)]
            omega
          have hF : Lib.uvarintFrom 8 acc (b :: l.drop (8 + 1)) = (acc + b.toNat * 72057594037927936, ((9 : Nat) : Int)) := by simp [Lib.uvarintFrom, hb]
          rw [hF] at hdec
          go_wp2
          go_ret3
          exact ⟨zout_ok (by decide) hdec, rfl⟩
        · have hv : bits .or .u64 (acc : Int) (IntKind.u64.wrap (IntKind.u64.wrap (bits .and .u8 (b.toNat : Int) 127) * 72057594037927936)) = ((acc + b.toNat % 128 * 72057594037927936 : Nat) : Int) := by
            simp (disch := omega) only [u8_and127, u64_wrap_id, u64_orv56]
            omega
          have hF : Lib.uvarintFrom 8 acc (b :: l.drop (8 + 1)) = Lib.uvarintFrom 9 (acc + b.toNat % 128 * 72057594037927936) (l.drop (8 + 1)) := by simp [Lib.uvarintFrom, hb]
          go_wp2
          refine ⟨⟨9, acc + b.toNat % 128 * 72057594037927936, rfl, (by first | rfl | (congr 1; omega)), by omega, by omega, ?_, hdec.trans hF⟩, by simp [intOf]; omega⟩
          show acc + b.toNat % 128 * 72057594037927936 < 2 ^ 63
          have e2 : (2 : Nat) ^ 63 = 9223372036854775808 := by decide
          omega
      · skip
        have hacc' : acc < 9223372036854775808 := by simpa using hacc
        by_cases hb : b.toNat < 128
        · by_cases hb1 : 1 < b.toNat
          · have hF : Lib.uvarintFrom 9 acc (b :: l.drop (9 + 1)) = (0, -10) := by simp [Lib.uvarintFrom, hb, hb1]
            rw [hF] at hdec
            go_wp2
            go_ret3
            exact ⟨zout_bad (by rw [hdec]; decide), rfl⟩
          · skip
            have hor : bits .or .u64 (acc : Int) ((b.toNat : Int) * 9223372036854775808) = ((acc + b.toNat * 9223372036854775808 : Nat) : Int) := by
              rw [u64_orv63 _ _ (by omega) (by omega) (by omega) (by omega) (by omega)]
              omega
            have hF : Lib.uvarintFrom 9 acc (b :: l.drop (9 + 1)) = (acc + b.toNat * 9223372036854775808, ((10 : Nat) : Int)) := by simp [Lib.uvarintFrom, hb, hb1]
            rw [hF] at hdec
            go_wp2
            go_ret3
            exact ⟨zout_ok (by decide) hdec, rfl⟩
        · obtain ⟨a2, ha2⟩ : ∃ a2 : Nat, bits .or .u64 (acc : Int) (IntKind.u64.wrap (IntKind.u64.wrap (bits .and .u8 (b.toNat : Int) 127) * 9223372036854775808)) = (a2 : Int) := ⟨_, (Int.toNat_of_nonneg (bits_lo_u64 _ _ _)).symm⟩
          have hhi := bits_hi_u64 .or (acc : Int) (IntKind.u64.wrap (IntKind.u64.wrap (bits .and .u8 (b.toNat : Int) 127) * 9223372036854775808))
          have hF : Lib.uvarintFrom 9 acc (b :: l.drop (9 + 1)) = Lib.uvarintFrom 10 a2 (l.drop (9 + 1)) := by
            rw [Lib.uvarintFrom_ten a2 (acc + b.toNat % 128 * 9223372036854775808)]
            simp [Lib.uvarintFrom, hb]
          go_wp2
          refine ⟨⟨10, a2, rfl, (by first | rfl | (congr 1; omega)), by omega, by omega, ?_, hdec.trans hF⟩, by simp [intOf]; omega⟩
          show a2 < 2 ^ 70
          have e2 : (2 : Nat) ^ 70 = 1180591620717411303424 := by decide
          omega
    · have hF : (Lib.uvarintDec l).2 ≤ 0 := by
        rw [hdec]
        by_cases hke : k = l.length
        · subst hke
          rw [List.drop_eq_nil_of_le (Nat.le_refl _)]; exact Int.le_refl 0
        · obtain rfl : k = 10 := by omega
          cases l.drop 10 <;> simp [Lib.uvarintFrom]
      by_cases hke : k < l.length
      · obtain rfl : k = 10 := by omega
        have hkl' : (10 : Int) < (l.length : Int) := by omega
        go_wp2
        go_ret3
        exact ⟨zout_bad hF, rfl⟩
      · have hkl' : ¬ (k : Int) < (l.length : Int) := by omega
        go_wp2
        go_ret3
        exact ⟨zout_bad hF, rfl⟩
end Bx
end Go.Proofs.YbulkcctkFmt
