import Derived.Test.YbulkagzsRows
import Derived.WalkKit
import Derived.WalkLawsBesides
import Derived.ProofKit
import Derived.Lib.AppendZeros
namespace Go.Proofs.Ybulkagzs
open Go.RowKit
set_option linter.unusedVariables false

/-- the cells of the zero listEntry -/
def z45 : List Value := [.int .u8 0, .int .u8 0, .int .u8 0, .int .u8 0, .int .u8 0, .int .u8 0, .int .u8 0, .int .u8 0, .int .u8 0, .int .u8 0, .int .u8 0, .int .u8 0, .int .u8 0, .int .u8 0, .int .u8 0, .int .u8 0, .int .u8 0, .int .u8 0, .int .u8 0, .int .u8 0, .int .u32 0, .int .u64 0]
theorem Yba.info45 : (Yba.prog.info? 45).map (fun i => (i.zero, i.size, i.bytes)) = some (some (.agg z45.toArray), 22, 32) := by kernel_rfl
theorem Yba.info21 : (Yba.prog.info? 21).map (fun i => (i.zero, i.size, i.bytes)) = some (some (.int .i32 0), 1, 4) := by kernel_rfl

/-- 'slices.Grow(nil, n)', n small and not 0: an empty slice that owns a new row. -/
theorem ownsRow_grown (w : World) (e : TypeId) (size n : Nat) (z : Value) (hz : z.cells.size = size) (hn : n ≤ maxLen) :
    ((w.alloc (.cells (Builtin.zeroCells z.cells n ++ Builtin.zeroCells z.cells (grownCap w n 0 e - n)) e)).drew).ownsRow w.heap.size e size (.slice (some ⟨w.heap.size, 0, none⟩) 0 (grownCap w n 0 e)) 0 [] := by
  refine ⟨by simp, .inr ⟨w.heap.size, _, _, rfl, Nat.le_refl _, heap_alloc_new w _, Nat.zero_le _, grownCap_le_maxLen w n 0 e hn, ?_, by simp⟩⟩
  have := grownCap_ge w n 0 e
  simp only [Array.size_append, size_zeroCells, hz, ← Nat.add_mul]
  congr 1
  omega

set_option maxHeartbeats 1000000 in
theorem grow48 (w : World) :
    Calls Yba.prog 48 #[.slice none 0 0, .int .i64 2] w fun e w' => ∃ cap, e = .returned (.slice (some ⟨w.heap.size, 0, none⟩) 0 cap) ∧ w'.ownsRow w.heap.size 45 22 (.slice (some ⟨w.heap.size, 0, none⟩) 0 cap) 0 [] ∧ Below w.heap.size w w' := by
  obtain ⟨i0, hi, hz0, hz1, hz2⟩ := info_parts Yba.info45
  have hr := Lib.run_append_nil_zeros (P := Yba.prog) w 36 3 36 45 i0 (.agg z45.toArray) .i64 .i64 Yba.underlying36 Yba.underlying3 hi hz0 2 (by decide) (by omega) (by decide) (by omega)
  have hown := ownsRow_grown w 45 22 2 (.agg z45.toArray) rfl (by unfold maxLen; decide)
  go_enter Yba.func48, Yba.ntmps48
  go_wp2_with (at_builtin; refine Lib.wpList_append_run _ rfl (.tmp 20) (.tmp 21) 36 3 rfl _ _ rfl rfl _ _ hr ?_)
  go_ret
  exact ⟨_, rfl, hown, ((Below.refl _ _).alloc (Nat.le_refl _) _).drew⟩

set_option maxHeartbeats 1000000 in
theorem grow49 (w : World) :
    Calls Yba.prog 49 #[.slice none 0 0, .int .i64 1] w fun e w' => ∃ cap, e = .returned (.slice (some ⟨w.heap.size, 0, none⟩) 0 cap) ∧ w'.ownsRow w.heap.size 21 1 (.slice (some ⟨w.heap.size, 0, none⟩) 0 cap) 0 [] ∧ Below w.heap.size w w' := by
  obtain ⟨i0, hi, hz0, hz1, hz2⟩ := info_parts Yba.info21
  have hr := Lib.run_append_nil_zeros (P := Yba.prog) w 37 3 37 21 i0 (.int .i32 0) .i64 .i64 Yba.underlying37 Yba.underlying3 hi hz0 1 (by decide) (by omega) (by decide) (by omega)
  have hown := ownsRow_grown w 21 1 1 (.int .i32 0) rfl (by unfold maxLen; decide)
  go_enter Yba.func49, Yba.ntmps49
  go_wp2_with (at_builtin; refine Lib.wpList_append_run _ rfl (.tmp 20) (.tmp 21) 37 3 rfl _ _ rfl rfl _ _ hr ?_)
  go_ret
  exact ⟨_, rfl, hown, ((Below.refl _ _).alloc (Nat.le_refl _) _).drew⟩
end Go.Proofs.Ybulkagzs
