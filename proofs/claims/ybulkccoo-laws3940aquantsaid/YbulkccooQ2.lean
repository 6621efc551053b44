import Derived.Test.YbulkccooQ1
namespace Go.Proofs.Ybulkccoo
open Go.RowKit
namespace Qx

def dig (L : Nat) (ch : Nat → Int) (pos : Nat) : Bool := decide (pos < L) && isDig (ch pos)

set_option maxHeartbeats 400000 in
theorem digit_any (w : World) (bx pb sb L cap : Nat) (ch : Nat → Int) (pos : Nat) (syn : Int) (h : Ps w pb sb L cap ch pos syn) (hx : w.cell? ⟨bx, 0, none⟩ = some (.pointer (some ⟨pb, 0, none⟩))) :
    Calls Yba.prog 19 #[.pointer (some ⟨bx, 0, none⟩)] w fun e w' => e = .returned (.bool (dig L ch pos)) ∧ ∃ n, w' = w.drewN n := by
  have hle := h.le
  have hc1 := h.cap1
  have hp1 := h.pos1
  by_cases hlt : pos < L
  · have h1 : (pos : Int) < (L : Int) := by omega
    have h0 : (0 : Int) ≤ (pos : Int) := by omega
    have HP : Hid (dig L ch pos = isDig (ch pos)) := by simp [Hid, dig, hlt]
    go_enter Yba.func19, Yba.ntmps19
    go_wp2_with fail
    refine (skipBlank_any _ pb sb L cap ch pos syn h).mono ?_
    rintro e w' ⟨rfl, n1, hw'⟩
    have HW : Hid (w' = w.drewN n1) := hw'
    have h' : Ps w' pb sb L cap ch pos syn := by rw [hw']; exact h.draws n1
    have hx' : w'.cell? ⟨bx, 0, none⟩ = some (.pointer (some ⟨pb, 0, none⟩)) := by rw [hw']; exact hx
    clear hw' hx h
    have c0 := h'.c0
    have c1 := h'.c1
    have cc := h'.chs pos hlt
    go_wp2_with fail
    go_quiet ((go_at_call 16; exact Calls.quiet_of_same (isDigit_any _ _)))
    go_wp2
    go_ret
    exact ⟨by rw [HP.out]; rfl, _, by rw [HW.out]; exact World.drewN_drewN _ _ _⟩
  · have h1 : decide ((pos : Int) < (L : Int)) = false := by simp; omega
    have HP : Hid (dig L ch pos = false) := by simp [Hid, dig, hlt]
    go_enter Yba.func19, Yba.ntmps19
    go_wp2_with fail
    refine (skipBlank_any _ pb sb L cap ch pos syn h).mono ?_
    rintro e w' ⟨rfl, n1, hw'⟩
    have HW : Hid (w' = w.drewN n1) := hw'
    have h' : Ps w' pb sb L cap ch pos syn := by rw [hw']; exact h.draws n1
    have hx' : w'.cell? ⟨bx, 0, none⟩ = some (.pointer (some ⟨pb, 0, none⟩)) := by rw [hw']; exact hx
    clear hw' hx h
    have c0 := h'.c0
    have c1 := h'.c1
    go_wp2_with fail
    go_quiet (fail)
    go_wp2
    go_ret
    exact ⟨by rw [HP.out]; rfl, _, by rw [HW.out]; exact World.drewN_drewN _ _ _⟩

set_option maxHeartbeats 400000 in
/-- 'utf8.RuneCountInString' at an ASCII string. -/
theorem runes_ascii (s : ByteArray) (hs : s.size ≤ 1000) (ha : ∀ i (h : i < s.size), (s[i]'h).toNat < 128) (w : World) :
    Calls Yba.prog 21 #[.string s] w fun e w' => e = .returned (.int .i64 s.size) ∧ Below w.heap.size w w' := by
  go_enter Yba.func21, Yba.ntmps21
  go_wp2
  go_loopw [2] (fun n wr => ∃ pos : Nat, n = .int .i64 pos ∧ pos ≤ s.size ∧ wr = w.iter s pos) (fun n _ => s.size - (intOf n).toNat)
  case atStart => exact ⟨0, rfl, Nat.zero_le _, rfl⟩
  case round =>
    obtain ⟨pos, rfl, hp, rfl⟩ := hrel
    by_cases hlt : pos < s.size
    · have hn := fun ty => run_next_ascii (P := Yba.prog) w s pos ty hlt (ha pos hlt)
      go_wp2
      go_roundw
      case rel => exact ⟨pos + 1, by go_num, by omega, rfl⟩
      case measure => simp [intOf]; omega
    · have hn := fun ty => run_next_end (P := Yba.prog) w s pos ty hlt
      have hk : pos = s.size := by omega
      subst hk
      go_wp2
      go_ret
      exact ⟨rfl, (Below.refl _ _).alloc (Nat.le_refl _) _⟩

end Qx
end Go.Proofs.Ybulkccoo
