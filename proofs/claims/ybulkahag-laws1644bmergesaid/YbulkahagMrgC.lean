import Derived.Test.YbulkahagMrgB
import Derived.Test.YbulkahagSrtH
import Derived.Maps.RangeWalk
namespace Go.Proofs.Ybulkahag
open Go.RowKit Go.Maps
set_option linter.unusedVariables false

/-- the edit's cells -/
structure Edit (w : World) (eb : Nat) (ev bev vb vm : Value) : Prop where
  c0 : w.cell? ⟨eb, 0, none⟩ = some ev
  c1 : w.cell? ⟨eb, 1, none⟩ = some bev
  c2 : w.cell? ⟨eb, 2, none⟩ = some vb
  c3 : w.cell? ⟨eb, 3, none⟩ = some vm

theorem Edit.kept {w w' : World} {eb : Nat} {ev bev vb vm : Value} (h : Edit w eb ev bev vb vm) (hb : Below w.heap.size w w') : Edit w' eb ev bev vb vm := by
  have lb : eb < w.heap.size := World.block_lt_of_cell? w _ h.c0
  exact ⟨(hb.cell (p := ⟨eb, 0, none⟩) lb).trans h.c0, (hb.cell (p := ⟨eb, 1, none⟩) lb).trans h.c1, (hb.cell (p := ⟨eb, 2, none⟩) lb).trans h.c2, (hb.cell (p := ⟨eb, 3, none⟩) lb).trans h.c3⟩

theorem size79 : (Yba.prog.info? 79).map (·.size) = some 2 := by kernel_rfl

/-- the row that is handed back -/
theorem ret_state {w : World} (q : Nat) (a b : Value) (tmps : Array Value) (hp : tmps.getD 2 undef = .pointer (some ⟨q, 0, none⟩)) (h : w.heap[q]? = some (.cells #[a, b] 79 (0, 0))) : (results Yba.f9 tmps).run Yba.prog w = .ok (.agg #[a, b]) w :=
  results_cell_row Yba.results9 _ _ q 79 #[a, b] (0, 0) _ hp h Yba.underlying79 rfl size79
theorem set_state {w : World} {q : Nat} {x y : Value} (a b : Value) (h : w.heap[q]? = some (.cells #[x, y] 79 (0, 0))) : ((w.setCell ⟨q, 0, none⟩ a).setCell ⟨q, 1, none⟩ b).heap[q]? = some (.cells #[a, b] 79 (0, 0)) :=
  heap_setCell_same _ q 1 _ 79 b (heap_setCell_same w q 0 _ 79 a h)
theorem below_state {w w0 : World} {q : Nat} (a b : Value) (h : Below w.heap.size w w0) (hq : w.heap.size ≤ q) : Below w.heap.size w ((w0.setCell ⟨q, 0, none⟩ a).setCell ⟨q, 1, none⟩ b) :=
  h.trans ⟨rfl, rfl, rfl, by simp, fun k hk => by rw [Below.heap_setCell _ _ _ _ (by show k ≠ q; omega), Below.heap_setCell _ _ _ _ (by show k ≠ q; omega)]⟩

/-- the world behind the result's block -/
structure Begun (w w0 : World) (eb : Nat) (ev bev vb vm : Value) : Prop where
  edit : Edit w0 eb ev bev vb vm
  row : w0.heap[w.heap.size]? = some (.cells #[.pointer none, .slice none 0 0] 79 (0, 0))
  below : Below w.heap.size w w0

theorem begun {w : World} {eb : Nat} {ev bev vb vm : Value} (h : Edit w eb ev bev vb vm) : Begun w (w.alloc (.cells #[.pointer none, .slice none 0 0] 79)) eb ev bev vb vm :=
  ⟨h.kept ((Below.refl w.heap.size w).alloc (Nat.le_refl _) _), heap_alloc_new w _, (Below.refl w.heap.size w).alloc (Nat.le_refl _) _⟩

set_option maxHeartbeats 4000000 in
set_option maxRecDepth 100000 in
/-- where the set is empty: the base's entries -/
theorem state_empty (eb : Nat) (ev bev vb vm : Value) (w : World) (h : Edit w eb ev bev vb vm) (hev : ∃ p, ev = .pointer p) (hvb : ∃ a l c, vb = .slice a l c)
    (hvm : vm = .map none ∨ ∃ mb nn D, vm = .map (some mb) ∧ w.ownsMap (H := Unit) Yba.prog 21 (plainElem Yba.prog 21) mb nn D ∧ Maps.size D = 0) :
    Calls Yba.prog 9 #[.pointer (some ⟨eb, 0, none⟩)] w fun e w' => e = .returned (.agg #[ev, vb]) ∧ Below w.heap.size w w' := by
  obtain ⟨p, rfl⟩ := hev
  obtain ⟨a, l, c, rfl⟩ := hvb
  have hB := begun h
  obtain ⟨⟨c0, c1, c2, c3⟩, hrow, hbel⟩ := hB
  have d0 : (w.alloc (.cells #[.pointer none, .slice none 0 0] 79)).cell? ⟨w.heap.size, 0, none⟩ = some (.pointer none) := cell_of_row _ _ _ _ _ _ hrow
  have d1 : (w.alloc (.cells #[.pointer none, .slice none 0 0] 79)).cell? ⟨w.heap.size, 1, none⟩ = some (.slice none 0 0) := cell_of_row _ _ _ _ _ _ hrow
  have f0 := frozen_of_row _ _ 0 _ _ hrow
  have f1 := frozen_of_row _ _ 1 _ _ hrow
  have HR : Hid _ := hrow
  have HB : Hid _ := hbel
  clear hrow hbel h
  rcases hvm with rfl | ⟨mb, nn, D, rfl, hown, hz⟩
  · go_enter Yba.func9, Yba.ntmps9
    go_wp2
    generalize w.alloc (.cells #[.pointer none, .slice none 0 0] 79) = W0 at *
    go_region
    go_wp2
    refine bodyPost_ret (ret_state w.heap.size (.pointer p) (.slice a l c) _ rfl (set_state _ _ HR.out)) rfl ?_
    exact ⟨rfl, (below_state _ _ HB.out (Nat.le_refl _)).drew⟩
  · have hown' := hown.alloc (.cells #[.pointer none, .slice none 0 0] 79)
    have Hown : Hid _ := hown'
    clear hown hown'
    go_enter Yba.func9, Yba.ntmps9
    go_wp2_with (at_len; refine wpList_len_own _ rfl _ 57 rfl 21 21 Yba.underlying57 _ mb nn D rfl Hown.out ?_; rw [hz])
    generalize w.alloc (.cells #[.pointer none, .slice none 0 0] 79) = W0 at *
    go_region
    go_wp2
    refine bodyPost_ret (ret_state w.heap.size (.pointer p) (.slice a l c) _ rfl (set_state _ _ HR.out)) rfl ?_
    exact ⟨rfl, (below_state _ _ HB.out (Nat.le_refl _)).drew⟩
end Go.Proofs.Ybulkahag
