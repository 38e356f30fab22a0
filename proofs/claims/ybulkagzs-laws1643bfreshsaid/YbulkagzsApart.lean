import Derived.Test.YbulkagzsNew
namespace Go.Proofs.Ybulkagzs
open Go.RowKit
set_option linter.unusedVariables false

/-- what a row of the call's own gives: its address, its cells, that it may be written -/
theorem own_cells {w : World} {b : Nat} {e : TypeId} {size : Nat} {v : Value} {n : Nat} {xs : List Value} (h : w.ownsRow b e size v n xs) (hn : 0 < n) :
    ∃ g cap, v = .slice (some ⟨g, 0, none⟩) n cap ∧ b ≤ g ∧ g < w.heap.size ∧ (∀ j, j < n * size → w.cell? ⟨g, j, none⟩ = xs[j]?) ∧ ∀ j, w.frozen? ⟨g, j, none⟩ = false := by
  obtain ⟨g, cap, rfl⟩ := own_form h hn
  have hl := h.lt g rfl
  exact ⟨g, cap, rfl, hl.1, hl.2, fun j hj => World.ownsRow.cellAt h j hj, fun j => World.ownsRow.frozenAt h j⟩

set_option maxHeartbeats 800000 in
set_option maxRecDepth 100000 in
theorem walkApart (bs : Array Value) (hbs : bs.size = 20) (hone : bs.all (·.oneCell') = true) (k d : Int) (hd1 : -9223372036854775808 ≤ d) (hd2 : d ≤ 9223372036854775807) (w : World) :
    Calls Yba.prog 6 #[.agg bs, .int .i64 k, .int .i64 d] w fun e w' => e = .returned (.bool true) ∧ Below w.heap.size w w' := by
  go_enter Yba.func6, Yba.ntmps6
  go_wp2_with fail
  refine (add_any d hd1 hd2 _).mono ?_
  rintro e w1 ⟨wall, ext, rfl, hw0, hw1, hb1⟩
  have z1 : w.heap.size < w1.heap.size := by have := hb1.size; simp at this; omega
  have hS : (w1.alloc (.cells #[.int .u64 wall, .int .i64 ext, .pointer none] 33)).heap[w.heap.size]? = some (.cells bs 22 (0, 0)) := by
    rw [Below.heap_alloc _ _ _ z1, hb1.block _ (by simp)]; exact heap_alloc_new _ _
  go_wp2_with (refine wpList_load_row rfl 22 (.tmp 3) rfl w.heap.size rfl 22 bs (0, 0) _ hS Yba.underlying22 rfl (by rw [hbs]; exact Yba.size22) ?_)
  have hB1 : Below w.heap.size w (w1.alloc (.cells #[.int .u64 wall, .int .i64 ext, .pointer none] 33)) :=
    (((Below.refl _ _).alloc (Nat.le_refl _) _).trans (hb1.mono (by simp))).alloc (by omega) _
  refine (newTab bs hbs hone k k wall ext _).mono ?_
  rintro e w2 ⟨vsA, vfA, vlA, vnA, rfl, oA1, oA2, oA3, oA4, hb2⟩
  have z2 : w1.heap.size < w2.heap.size := by have := hb2.size; simp at this; omega
  have hB2 := hB1.trans (hb2.mono (by simp; omega))
  have hS2 : w2.heap[w.heap.size]? = some (.cells bs 22 (0, 0)) := by rw [hb2.block _ (by simp; omega)]; exact hS
  have hN2 : w2.heap[w1.heap.size]? = some (.cells #[.int .u64 wall, .int .i64 ext, .pointer none] 33 (0, 0)) := by rw [hb2.block _ (by simp)]; exact heap_alloc_new _ _
  have hA1 := tab_one bs hone (.int .i64 k) (.int .i64 k) vsA vnA vfA vlA rfl rfl (one_own oA1) (one_own oA4) (one_own oA2) (one_own oA3)
  have hB2' := hB2.alloc (o := .cells (tab bs (.int .i64 k) (.int .i64 k) vsA vnA vfA vlA) 41) (by omega)
  have hS3 : (w2.alloc (.cells (tab bs (.int .i64 k) (.int .i64 k) vsA vnA vfA vlA) 41)).heap[w.heap.size]? = some (.cells bs 22 (0, 0)) := by rw [Below.heap_alloc _ _ _ (by omega)]; exact hS2
  have n0 : w2.cell? ⟨w1.heap.size, 0, none⟩ = some (.int .u64 wall) := by rw [cell_of_row w2 _ 0 _ _ _ hN2]; rfl
  have n1 : w2.cell? ⟨w1.heap.size, 1, none⟩ = some (.int .i64 ext) := by rw [cell_of_row w2 _ 1 _ _ _ hN2]; rfl
  have n2 : w2.cell? ⟨w1.heap.size, 2, none⟩ = some (.pointer none) := by rw [cell_of_row w2 _ 2 _ _ _ hN2]; rfl
  clear hS hS2 hN2 hb1 hb2
  go_wp2_with (first | (refine wpList_store_row rfl 41 (.tmp 8) (.tmp 17) rfl w2.heap.size (tab bs (.int .i64 k) (.int .i64 k) vsA vnA vfA vlA) rfl rfl 41 z41 (heap_alloc_new _ _) (by rw [tab_size _ hbs]; exact Yba.size41) (by rw [tab_size _ hbs]; rfl) hA1 ?_; rw [World.setRow_alloc_new]) | (refine wpList_load_row rfl 22 (.tmp 3) rfl w.heap.size rfl 22 bs (0, 0) _ hS3 Yba.underlying22 rfl (by rw [hbs]; exact Yba.size22) ?_))
  refine (newTab bs hbs hone k k wall ext _).mono ?_
  rintro e w3 ⟨vsB, vfB, vlB, vnB, rfl, oB1, oB2, oB3, oB4, hb3⟩
  have hB1' := tab_one bs hone (.int .i64 k) (.int .i64 k) vsB vnB vfB vlB rfl rfl (one_own oB1) (one_own oB4) (one_own oB2) (one_own oB3)
  go_upto_region 4 with (refine wpList_store_row rfl 41 (.tmp 9) (.tmp 22) rfl w3.heap.size (tab bs (.int .i64 k) (.int .i64 k) vsB vnB vfB vlB) rfl rfl 41 z41 (heap_alloc_new _ _) (by rw [tab_size _ hbs]; exact Yba.size41) (by rw [tab_size _ hbs]; rfl) hB1' ?_; rw [World.setRow_alloc_new])
  have z3 : w2.heap.size < w3.heap.size := by have := hb3.size; simp at this; omega
  have hB3 := (hB2'.trans (hb3.mono (by simp; omega))).alloc (o := .cells (tab bs (.int .i64 k) (.int .i64 k) vsB vnB vfB vlB) 41) (by omega)
  have hF : Below w2.heap.size w2 (w3.alloc (.cells (tab bs (.int .i64 k) (.int .i64 k) vsB vnB vfB vlB) 41)) := (((Below.refl _ _).alloc (Nat.le_refl _) _).trans (hb3.mono (by simp))).alloc (by omega) _
  have hFA : (w3.alloc (.cells (tab bs (.int .i64 k) (.int .i64 k) vsB vnB vfB vlB) 41)).heap[w2.heap.size]? = some (.cells (tab bs (.int .i64 k) (.int .i64 k) vsA vnA vfA vlA) 41 (0, 0)) := by
    rw [Below.heap_alloc _ _ _ z3, hb3.block _ (by simp)]; exact heap_alloc_new _ _
  have hFB : (w3.alloc (.cells (tab bs (.int .i64 k) (.int .i64 k) vsB vnB vfB vlB) 41)).heap[w3.heap.size]? = some (.cells (tab bs (.int .i64 k) (.int .i64 k) vsB vnB vfB vlB) 41 (0, 0)) := heap_alloc_new _ _
  obtain ⟨gA, cA, eA, gA1, gA2, gA3, gA4⟩ := own_cells oA1 (by decide)
  obtain ⟨mA, dA, eA', mA1, mA2, mA3, mA4⟩ := own_cells oA4 (by decide)
  obtain ⟨lA, fA, eA'', lA1, lA2, _, _⟩ := own_cells oA3 (by decide)
  obtain ⟨gB, cB, eB, gB1, gB2, gB3, gB4⟩ := own_cells oB1 (by decide)
  obtain ⟨mB, dB, eB', mB1, mB2, mB3, mB4⟩ := own_cells oB4 (by decide)
  obtain ⟨lB, fB, eB'', lB1, lB2, _, _⟩ := own_cells oB3 (by decide)
  obtain ⟨-, -, -, p3, p4, -, -, p7, -⟩ := tab_get bs hbs (.int .i64 k) (.int .i64 k) vsA vnA vfA vlA
  obtain ⟨-, -, -, r3, r4, -, -, r7, -⟩ := tab_get bs hbs (.int .i64 k) (.int .i64 k) vsB vnB vfB vlB
  have a23 := (cell_of_row _ _ 23 _ _ _ hFA).trans p3
  have a24 := (cell_of_row _ _ 24 _ _ _ hFA).trans p4
  have a27 := (cell_of_row _ _ 27 _ _ _ hFA).trans p7
  have b23 := (cell_of_row _ _ 23 _ _ _ hFB).trans r3
  have b24 := (cell_of_row _ _ 24 _ _ _ hFB).trans r4
  have b27 := (cell_of_row _ _ 27 _ _ _ hFB).trans r7
  have s1 := (hF.cell (p := ⟨gA, 21, none⟩) gA2).trans (gA3 21 (by decide))
  have s2 := (hF.frozen (p := ⟨gA, 21, none⟩) gA2).trans (gA4 21)
  have s3 := (hF.cell (p := ⟨mA, 0, none⟩) mA2).trans (mA3 0 (by decide))
  have s4 := (hF.frozen (p := ⟨mA, 0, none⟩) mA2).trans (mA4 0)
  have s5 := (World.cell?_of_block (a := ⟨gB, 21, none⟩) (Below.heap_alloc w3 (.cells (tab bs (.int .i64 k) (.int .i64 k) vsB vnB vfB vlB) 41) gB gB2)).trans (gB3 21 (by decide))
  have s6 := (World.cell?_of_block (a := ⟨mB, 0, none⟩) (Below.heap_alloc w3 (.cells (tab bs (.int .i64 k) (.int .i64 k) vsB vnB vfB vlB) 41) mB mB2)).trans (mB3 0 (by decide))
  have zz : (w2.alloc (.cells (tab bs (.int .i64 k) (.int .i64 k) vsA vnA vfA vlA) 41)).heap.size = w2.heap.size + 1 := by simp
  have zy : (w1.alloc (.cells #[.int .u64 wall, .int .i64 ext, .pointer none] 33)).heap.size = w1.heap.size + 1 := by simp
  have i1 : gA ≠ w2.heap.size := by omega
  have i2 : gA ≠ w3.heap.size := by omega
  have i3 : mA ≠ w2.heap.size := by omega
  have i4 : mA ≠ w3.heap.size := by omega
  have i5 : gA ≠ gB := by omega
  have i6 : mA ≠ gB := by omega
  have i7 : gA ≠ mB := by omega
  have i8 : mA ≠ mB := by omega
  have j1 : w.heap.size ≤ gA := by omega
  have j2 : w.heap.size ≤ mA := by omega
  clear hb3 hF hFA hFB gA1 gA2 gA3 gA4 mA1 mA2 mA3 mA4 gB1 gB2 gB3 gB4 mB1 mB2 mB3 mB4 oA1 oA2 oA3 oA4 oB1 oB2 oB3 oB4 p3 p4 p7 r3 r4 r7 zz zy n0 n1 n2 hS3 hB2' hB2 hB1 lA1 lA2 lB1 lB2
  generalize (w3.alloc (.cells (tab bs (.int .i64 k) (.int .i64 k) vsB vnB vfB vlB) 41)) = wF at a23 a24 a27 b23 b24 b27 s1 s2 s3 s4 s5 s6 hB3 ⊢
  rw [eA] at a23
  rw [eA'] at a24
  rw [eA''] at a27
  rw [eB] at b23
  rw [eB'] at b24
  rw [eB''] at b27
  clear eA eA' eA'' eB eB' eB''
  have s1' : wF.cell? ⟨gA, 21, none⟩ = some (.int .u64 0) := s1
  have s3' : wF.cell? ⟨mA, 0, none⟩ = some (.int .i32 0) := s3
  have s5' : wF.cell? ⟨gB, 21, none⟩ = some (.int .u64 0) := s5
  have s6' : wF.cell? ⟨mB, 0, none⟩ = some (.int .i32 0) := s6
  have HB : Hid (Below w.heap.size w wF) := hB3
  have J1 : Hid (w.heap.size ≤ gA) := j1
  have J2 : Hid (w.heap.size ≤ mA) := j2
  clear s1 s3 s5 s6 hA1 hB1' hB3 j1 j2 z1 z2 z3 hd1 hd2 hw0 hw1 hbs hone
  go_wp2
  go_ret
  exact ⟨rfl, (HB.out.setCell (by exact J1.out) _).setCell (by exact J2.out) _⟩
end Go.Proofs.Ybulkagzs
