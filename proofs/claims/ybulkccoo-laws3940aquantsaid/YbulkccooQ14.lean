import Derived.Test.YbulkccooQ13
import Derived.LaidEqlPtr
namespace Go.Proofs.Ybulkccoo
open Go.RowKit
namespace Qx

theorem after_boxes {s : Int} {wc : World} {w : World} {base gt ct : Nat} {T : List Int} (hown : wc.ownsRow base 21 1 (.slice (some ⟨gt, 0, none⟩) T.length ct) T.length (T.map (Value.int .i32))) (hl : T.length ≤ 1000000) (hb : Below w.heap.size w wc) :
    ∃ W1 : World, W1 = ((wc.alloc (.cells #[.slice (some ⟨gt, 0, none⟩) T.length ct, .int .i64 0, .int .u8 s, .bool false, .bool false, .bool false, .bool false, .slice none 0 0, .int .i64 0, .int .i64 0, .int .u8 0, .string { data := #[] }] 34)).alloc (.cells #[.int .u8 1, .int .u64 0, .int .u64 0, .slice none 0 0, .bool false, .slice none 0 0, .int .i64 0, .int .i64 0, .int .u8 0, .int .u8 0, .int .i64 0, .bool false, .bool false, .bool false] 44)) ∧
      Ps W1 wc.heap.size gt T.length ct (fun i => T.getD i 0) 0 s ∧ W1.cell? ⟨wc.heap.size + 1, 0, none⟩ = some (.int .u8 1) ∧ Below w.heap.size w W1 := by
  refine ⟨_, rfl, ?_, ?_, (hb.alloc hb.size _).alloc (by simp; have := hb.size; omega) _⟩
  · have hlt : gt < wc.heap.size := (hown.lt gt rfl).2
    have hle : T.length ≤ ct := by
      obtain ⟨_, h2⟩ := hown
      rcases h2 with ⟨h, _⟩ | ⟨g, cap, cur, h, _, _, h3, _⟩
      · cases h
      · cases h; exact h3
    refine ⟨?_, ?_, ?_, ?_, ?_, by omega, fun i hi => ?_, hle, hl, by omega⟩
    · simp
    · simp
    · simp
    · simp
    · have hbl := (((Below.refl (wc.alloc (.cells #[.slice (some ⟨gt, 0, none⟩) T.length ct, .int .i64 0, .int .u8 s, .bool false, .bool false, .bool false, .bool false, .slice none 0 0, .int .i64 0, .int .i64 0, .int .u8 0, .string { data := #[] }] 34)).heap.size _).alloc (Nat.le_refl _) (.cells #[.int .u8 1, .int .u64 0, .int .u64 0, .slice none 0 0, .bool false, .slice none 0 0, .int .i64 0, .int .i64 0, .int .u8 0, .int .u8 0, .int .i64 0, .bool false, .bool false, .bool false] 44)).block wc.heap.size (by simp)).trans (heap_alloc_new wc _)
      unfold World.frozen?
      rw [hbl]
      simp
    · rw [World.cell?_alloc_old _ _ _ (by simp; omega), World.cell?_alloc_old _ _ _ (by simp; omega), hown.cellAt i (by omega)]
      simp [List.getD, hi]
  · simp

theorem eql_atom (a : Addr) (w : World) : (binOp .eql 35 (.pointer (some a)) (.pointer (some a))).run Yba.prog w = .ok (.bool true) w := by
  obtain ⟨j, hj⟩ := Option.isSome_iff_exists.1 (show (Yba.prog.info? 44).isSome = true by kernel_rfl)
  exact run_eql_ptr_same w a Yba.underlying35 hj

end Qx
end Go.Proofs.Ybulkccoo
