import Derived.Test.YbulkagzsTabs
import Derived.Deep.WholeRow
namespace Go.Proofs.Ybulkagzs
open Go.RowKit
set_option linter.unusedVariables false

theorem wpList_built {P : Program} {ops : Array Oper} {rest : List Oper} {o : Oper} {a : Act} {w : World} {Q : Exit → Act → World → Prop} (hg : o.guard = none) (t : TypeId) (parts : Array (Nat × Operand)) (ho : o.op = .build t parts)
    (cells : Array Value) (hb : P.built t (parts.map fun (i, x) => (i, a.eval x)).toList = some cells)
    (h : wpList P ops Q rest (a.put o.dst (.agg cells)) w) : wpList P ops Q (o :: rest) a w :=
  wpList_build hg t parts ho (by rw [hb]; rfl) (by rw [hb]; exact h)

def z41 : Array Value := #[.int .u8 0, .int .u8 0, .int .u8 0, .int .u8 0, .int .u8 0, .int .u8 0, .int .u8 0, .int .u8 0, .int .u8 0, .int .u8 0, .int .u8 0, .int .u8 0, .int .u8 0, .int .u8 0, .int .u8 0, .int .u8 0, .int .u8 0, .int .u8 0, .int .u8 0, .int .u8 0, .int .i64 0, .int .i64 0, .int .i64 0, .slice none 0 0, .slice none 0 0, .slice none 0 0, .slice none 0 0, .slice none 0 0, .int .u64 0]

theorem three (w : World) (a b c : Obj) : ((w.alloc a).alloc b).alloc c |>.heap[w.heap.size]? = some a := by
  rw [Below.heap_alloc _ _ _ (by simp; omega), Below.heap_alloc _ _ _ (by simp)]
  exact heap_alloc_new w a
theorem three1 (w : World) (a b c : Obj) : ((w.alloc a).alloc b).alloc c |>.heap[w.heap.size + 1]? = some b := by
  rw [Below.heap_alloc _ _ _ (by simp)]
  have := heap_alloc_new (w.alloc a) b
  simpa using this
theorem three2 (w : World) (a b c : Obj) : ((w.alloc a).alloc b).alloc c |>.heap[w.heap.size + 1 + 1]? = some c := by
  have := heap_alloc_new ((w.alloc a).alloc b) c
  simpa using this
theorem one_own {w : World} {b : Nat} {e : TypeId} {size : Nat} {v : Value} {n : Nat} {xs : List Value} (h : w.ownsRow b e size v n xs) : v.oneCell' = true := by
  rcases h.2 with ⟨rfl, _⟩ | ⟨g, cap, cur, rfl, _⟩ <;> rfl

theorem own_setRow {w : World} {b b' : Nat} {e : TypeId} {size : Nat} {v : Value} {n : Nat} {xs : List Value} (h : w.ownsRow b e size v n xs) {R : Nat} (hR : R < b) (cs : Array Value) (hb : b' ≤ R) : (w.setRow R cs).ownsRow b' e size v n xs := by
  refine ⟨h.1, ?_⟩
  rcases h.2 with h0 | ⟨g, cap, cur, rfl, h2, hg, r⟩
  · exact .inl h0
  · exact .inr ⟨g, cap, cur, rfl, by omega, by rw [setRow_other _ _ _ _ (by omega)]; exact hg, r⟩

set_option maxHeartbeats 800000 in
set_option maxRecDepth 100000 in
theorem newTab (bs : Array Value) (hbs : bs.size = 20) (hone : bs.all (·.oneCell') = true) (k sa wall ext : Int) (w : World) :
    Calls Yba.prog 11 #[.agg bs, .int .i64 k, .int .i64 sa, .agg #[.int .u64 wall, .int .i64 ext, .pointer none]] w fun e w' =>
      ∃ vs vf vl vn, e = .returned (.agg (tab bs (.int .i64 k) (.int .i64 sa) vs vn vf vl)) ∧
        w'.ownsRow w.heap.size 45 22 vs 2 (z45 ++ z45) ∧ w'.ownsRow w.heap.size 21 1 vf 1 [.int .i32 0] ∧ w'.ownsRow w.heap.size 33 3 vl 1 [.int .u64 wall, .int .i64 ext, .pointer none] ∧ w'.ownsRow w.heap.size 21 1 vn 2 [.int .i32 0, .int .i32 0] ∧ Below w.heap.size w w' := by
  have A0 := three w (.cells bs 24) (.cells #[.int .u64 wall, .int .i64 ext, .pointer none] 33) (.cells z41 41)
  have A1 := three1 w (.cells bs 24) (.cells #[.int .u64 wall, .int .i64 ext, .pointer none] 33) (.cells z41 41)
  have A2 := three2 w (.cells bs 24) (.cells #[.int .u64 wall, .int .i64 ext, .pointer none] 33) (.cells z41 41)
  have A3 : (((w.alloc (.cells bs 24)).alloc (.cells #[.int .u64 wall, .int .i64 ext, .pointer none] 33)).alloc (.cells z41 41)).heap.size = w.heap.size + 1 + 1 + 1 := by simp
  have A4 : Below w.heap.size w (((w.alloc (.cells bs 24)).alloc (.cells #[.int .u64 wall, .int .i64 ext, .pointer none] 33)).alloc (.cells z41 41)) := (((Below.refl _ _).alloc (Nat.le_refl _) _).alloc (by simp) _).alloc (by simp; omega) _
  go_enter Yba.func11, Yba.ntmps11
  go_upto_region 1 with fail
  change Code.wp Yba.prog _ _ _ (((w.alloc (.cells bs 24)).alloc (.cells #[.int .u64 wall, .int .i64 ext, .pointer none] 33)).alloc (.cells z41 41))
  generalize (((w.alloc (.cells bs 24)).alloc (.cells #[.int .u64 wall, .int .i64 ext, .pointer none] 33)).alloc (.cells z41 41)) = w0 at A0 A1 A2 A3 A4 ⊢
  have H1 : Hid (w0.heap[w.heap.size + 1]? = some (.cells #[.int .u64 wall, .int .i64 ext, .pointer none] 33 (0, 0))) := A1
  have H2 : Hid (w0.heap[w.heap.size + 1 + 1]? = some (.cells z41 41 (0, 0))) := A2
  have H3 : Hid (w0.heap.size = w.heap.size + 1 + 1 + 1) := A3
  have b0 : w0.cell? ⟨w.heap.size + 1, 0, none⟩ = some (.int .u64 wall) := by rw [cell_of_row w0 _ 0 _ _ _ A1]; rfl
  have b1 : w0.cell? ⟨w.heap.size + 1, 1, none⟩ = some (.int .i64 ext) := by rw [cell_of_row w0 _ 1 _ _ _ A1]; rfl
  have b2 : w0.cell? ⟨w.heap.size + 1, 2, none⟩ = some (.pointer none) := by rw [cell_of_row w0 _ 2 _ _ _ A1]; rfl
  have hz1 : w.heap.size + 1 < w0.heap.size := by omega
  have hz2 : w.heap.size + 1 + 1 < w0.heap.size := by omega
  clear A1 A2 A3
  go_wp2_with (first | (refine wpList_load_row rfl 24 (.tmp 4) rfl w.heap.size rfl 24 bs (0, 0) _ A0 Yba.underlying24 rfl (by rw [hbs]; exact Yba.size24) ?_) | (refine wpList_built rfl 41 #[(0, .tmp 10), (1, .tmp 11), (2, .tmp 12), (3, .const (.int .i64 1))] rfl _ (by simp only [List.map_toArray, List.map_cons, List.map_nil]; exact built41 bs hbs k sa) ?_) | (refine wpList_store_row rfl 41 (.tmp 9) (.tmp 13) rfl w0.heap.size (tab bs (.int .i64 k) (.int .i64 sa) (.slice none 0 0) (.slice none 0 0) (.slice none 0 0) (.slice none 0 0)) rfl rfl 41 z41 (heap_alloc_new _ _) (by rw [tab_size _ hbs]; exact Yba.size41) (by rw [tab_size _ hbs]; rfl) (tab_one bs hone _ _ _ _ _ _ rfl rfl rfl rfl rfl rfl) ?_; rw [World.setRow_alloc_new]))
  obtain ⟨t0, t1, t2, t3, t4, t5, t6, t7, t8⟩ := tab_get bs hbs (.int .i64 k) (.int .i64 sa) (.slice none 0 0) (.slice none 0 0) (.slice none 0 0) (.slice none 0 0)
  refine (grow23 w0.heap.size _ wall ext _ (heap_alloc_new _ _) (tab_size bs hbs _ _ _ _ _ _) t2 t3 t4 t5 t6 t7).mono ?_
  clear t0 t1 t2 t3 t4 t5 t6 t7 t8 b0 b1 b2
  rintro e w4 ⟨rfl, vs, vf, vl, vn, hT4, o1, o2, o3, o4, hg4⟩
  rw [tab_set bs hbs] at hT4
  have hR4 : w4.heap[w.heap.size + 1 + 1]? = some (.cells z41 41 (0, 0)) := by
    rw [hg4.block _ (by simp; omega) (by simp; omega), Below.heap_alloc _ _ _ (by omega)]
    exact H2.out
  have hone4 := tab_one bs hone (.int .i64 k) (.int .i64 sa) vs vn vf vl rfl rfl (one_own o1) (one_own o4) (one_own o2) (one_own o3)
  have hB4 : Below w.heap.size w (w4.setRow (w.heap.size + 1 + 1) (tab bs (.int .i64 k) (.int .i64 sa) vs vn vf vl)) := by
    refine (A4.alloc (by omega) (.cells (tab bs (.int .i64 k) (.int .i64 sa) (.slice none 0 0) (.slice none 0 0) (.slice none 0 0) (.slice none 0 0)) 41)).trans ⟨hg4.os, hg4.tape, hg4.output, by simpa using hg4.size, fun j hj => ?_⟩
    rw [setRow_other _ _ _ _ (by omega)]
    exact hg4.block j (by simp; omega) (by simp; omega)
  have hz4 : w.heap.size + 1 + 1 < (w0.alloc (.cells (tab bs (.int .i64 k) (.int .i64 sa) (.slice none 0 0) (.slice none 0 0) (.slice none 0 0) (.slice none 0 0)) 41)).heap.size := by simp; omega
  have q1 := own_setRow o1 hz4 (tab bs (.int .i64 k) (.int .i64 sa) vs vn vf vl) (b' := w.heap.size) (by omega)
  have q2 := own_setRow o2 hz4 (tab bs (.int .i64 k) (.int .i64 sa) vs vn vf vl) (b' := w.heap.size) (by omega)
  have q3 := own_setRow o3 hz4 (tab bs (.int .i64 k) (.int .i64 sa) vs vn vf vl) (b' := w.heap.size) (by omega)
  have q4 := own_setRow o4 hz4 (tab bs (.int .i64 k) (.int .i64 sa) vs vn vf vl) (b' := w.heap.size) (by omega)
  have HT : Hid (w4.heap[w0.heap.size]? = some (.cells (tab bs (.int .i64 k) (.int .i64 sa) vs vn vf vl) 41 (0, 0))) := hT4
  have HR : Hid (w4.heap[w.heap.size + 1 + 1]? = some (.cells z41 41 (0, 0))) := hR4
  clear hT4 hR4 o1 o2 o3 o4 hg4 hz4 A0 A4 hz1 hz2
  go_wp2_with (first | (refine wpList_load_row rfl 41 (.tmp 9) rfl w0.heap.size rfl 41 (tab bs (.int .i64 k) (.int .i64 sa) vs vn vf vl) (0, 0) _ HT.out Yba.underlying41 rfl (by rw [tab_size _ hbs]; exact Yba.size41) ?_) | (refine wpList_store_row rfl 41 (.tmp 8) (.tmp 16) rfl (w.heap.size + 1 + 1) (tab bs (.int .i64 k) (.int .i64 sa) vs vn vf vl) rfl rfl 41 z41 HR.out (by rw [tab_size _ hbs]; exact Yba.size41) (by rw [tab_size _ hbs]; rfl) hone4 ?_))
  refine bodyPost_ret (v := .agg (tab bs (.int .i64 k) (.int .i64 sa) vs vn vf vl)) ?_ rfl ⟨vs, vf, vl, vn, rfl, q1, q2, q3, q4, hB4⟩
  exact results_cell_row Yba.results11 _ _ (w.heap.size + 1 + 1) 41 _ (0, 0) _ rfl (setRow_heap _ _ _ _ _ _ HR.out) Yba.underlying41 rfl (by rw [tab_size _ hbs]; exact Yba.size41)
end Go.Proofs.Ybulkagzs
