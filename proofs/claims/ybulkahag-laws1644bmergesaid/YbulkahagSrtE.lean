import Derived.Test.YbulkahagSrtD
namespace Go.Proofs.Ybulkahag
open Go.RowKit Go.Shelf
set_option linter.unusedVariables false

theorem Fr.still {blk q : Nat} {A B : World} {d : Array Kp} (h : Fr blk A B) (h1 : Row blk A d) (h2 : Row blk B d) : Fr q A B :=
  ⟨h.os, h.tape, h.output, h.size, fun k hk _ => by
    by_cases e : k = blk
    · subst e; rw [show B.heap[k]? = _ from h2, show A.heap[k]? = _ from h1]
    · exact h.block k hk e⟩
theorem cell_still {blk q : Nat} {A B : World} {d : Array Kp} {v : Value} (h : Fr blk A B) (h1 : Row blk A d) (h2 : Row blk B d) (hc : A.cell? ⟨q, 0, none⟩ = some v) (hf : A.frozen? ⟨q, 0, none⟩ = false) : B.cell? ⟨q, 0, none⟩ = some v ∧ B.frozen? ⟨q, 0, none⟩ = false := by
  have hq := World.block_lt_of_cell? A _ hc
  have e : B.heap[q]? = A.heap[q]? := (h.still (q := q + 1) h1 h2).block q hq (by omega)
  exact ⟨(World.cell?_of_block (a := ⟨q, 0, none⟩) e).trans hc, (World.frozen?_of_block (a := ⟨q, 0, none⟩) e).trans hf⟩

/-- the counter that swaps points to: some number -/
def Cnt (q : Nat) (W : World) : Prop := ∃ s : Int, W.cell? ⟨q, 0, none⟩ = some (.int .i64 s) ∧ W.frozen? ⟨q, 0, none⟩ = false

set_option maxHeartbeats 2000000 in
theorem order2_any (blk n : Nat) (d : Array Kp) (hn : d.size = n) (q : Nat) (hq : blk ≠ q) (a b : Nat) (ha : a < n) (hb : b < n) {A B : Int} (hA : A = a) (hB : B = b) (W : World) (h : Row blk W d) (hc : Cnt q W) :
    Calls Yba.prog 35 #[.iface 92 (rvOf blk n), .int .i64 A, .int .i64 B, .pointer (some ⟨q, 0, none⟩)] W fun e w' => ∃ x y : Nat, (x = a ∧ y = b ∨ x = b ∧ y = a) ∧ e = .returned (.tuple #[.int .i64 x, .int .i64 y]) ∧ Row blk w' d ∧ Fr q W w' ∧ Cnt q w' := by
  subst hA hB
  obtain ⟨s, hs, hf⟩ := hc
  have mL := findLess blk n
  have eL := enterLess
  have hl := less_any blk n d hn b a hb ha W h
  have H : Hid (Row blk W d) := h
  clear h
  cases hv : lt d[b]! d[a]! with
  | true =>
    rw [hv] at hl
    go_enter Yba.func35, Yba.ntmps35
    go_wp2_with (go_at_fn 61; refine hl.mono ?_; rintro e w1 ⟨rfl, hr1, hf1⟩; obtain ⟨c1, f1⟩ := cell_still hf1 H.out hr1 hs hf)
    go_ret2
    refine ⟨b, a, .inr ⟨rfl, rfl⟩, rfl, hr1.other (fr_set _ _ _ _) hq, (hf1.still H.out hr1).trans (fr_set _ _ _ _), _, World.cell?_setCell_same w1 ⟨q, 0, none⟩ _ c1, by simpa using f1⟩
  | false =>
    rw [hv] at hl
    go_enter Yba.func35, Yba.ntmps35
    go_wp2_with (go_at_fn 61; refine hl.mono ?_; rintro e w1 ⟨rfl, hr1, hf1⟩; obtain ⟨c1, f1⟩ := cell_still hf1 H.out hr1 hs hf)
    go_ret2
    exact ⟨a, b, .inl ⟨rfl, rfl⟩, rfl, hr1, hf1.still H.out hr1, s, c1, f1⟩

set_option maxHeartbeats 2000000 in
theorem median_any (blk n : Nat) (d : Array Kp) (hn : d.size = n) (q : Nat) (hq : blk ≠ q) (a b c : Nat) (ha : a < n) (hb : b < n) (hc : c < n) {A B C : Int} (hA : A = a) (hB : B = b) (hC : C = c) (W : World) (h : Row blk W d) (hcn : Cnt q W) :
    Calls Yba.prog 34 #[.iface 92 (rvOf blk n), .int .i64 A, .int .i64 B, .int .i64 C, .pointer (some ⟨q, 0, none⟩)] W fun e w' => ∃ x : Nat, (x = a ∨ x = b ∨ x = c) ∧ e = .returned (.int .i64 x) ∧ Row blk w' d ∧ Fr q W w' ∧ Cnt q w' := by
  subst hA hB hC
  have H : Hid (Row blk W d) := h
  have HC : Hid (Cnt q W) := hcn
  clear h hcn
  go_enter Yba.func34, Yba.ntmps34
  go_upto_region 2 with (go_at_call 35; refine (order2_any blk n d hn q hq a b ha hb rfl rfl W H.out HC.out).mono ?_; rintro e w1 ⟨x1, y1, hxy1, rfl, hr1, hf1, hc1⟩)
  go_upto_region 3 with (go_at_call 35; refine (order2_any blk n d hn q hq y1 c (by omega) hc rfl rfl w1 hr1 hc1).mono ?_; rintro e w2 ⟨x2, y2, hxy2, rfl, hr2, hf2, hc2⟩)
  go_wp2_with (go_at_call 35; refine (order2_any blk n d hn q hq x1 x2 (by omega) (by omega) rfl rfl w2 hr2 hc2).mono ?_; rintro e w3 ⟨x3, y3, hxy3, rfl, hr3, hf3, hc3⟩)
  go_ret
  exact ⟨y3, by omega, rfl, hr3, (hf1.trans hf2).trans hf3, hc3⟩

set_option maxHeartbeats 2000000 in
theorem adj_any (blk n : Nat) (d : Array Kp) (hn : d.size = n) (h64 : n ≤ 64) (q : Nat) (hq : blk ≠ q) (a : Nat) (h1 : 1 ≤ a) (ha : a + 1 < n) {A : Int} (hA : A = a) (W : World) (h : Row blk W d) (hcn : Cnt q W) :
    Calls Yba.prog 33 #[.iface 92 (rvOf blk n), .int .i64 A, .pointer (some ⟨q, 0, none⟩)] W fun e w' => ∃ x : Nat, a - 1 ≤ x ∧ x ≤ a + 1 ∧ e = .returned (.int .i64 x) ∧ Row blk w' d ∧ Fr q W w' ∧ Cnt q w' := by
  subst hA
  have H : Hid (Row blk W d) := h
  have HC : Hid (Cnt q W) := hcn
  clear h hcn
  go_enter Yba.func33, Yba.ntmps33
  go_wp2_with (go_at_call 34; refine (median_any blk n d hn q hq (a - 1) a (a + 1) (by omega) (by omega) ha (by omega) rfl (by omega) W H.out HC.out).mono ?_; rintro e w1 ⟨x1, hx1, rfl, hr1, hf1, hc1⟩)
  go_ret
  exact ⟨x1, by omega, by omega, rfl, hr1, hf1, hc1⟩

set_option maxHeartbeats 4000000 in
set_option maxRecDepth 100000 in
theorem pivot_any (blk n : Nat) (d : Array Kp) (hn : d.size = n) (h64 : n ≤ 64) (a b : Nat) (hab : a + 8 ≤ b) (hb : b ≤ n) (W : World) (h : Row blk W d) :
    Calls Yba.prog 23 #[.iface 92 (rvOf blk n), .int .i64 a, .int .i64 b] W fun e w' => ∃ (p : Nat) (hh : Int), a ≤ p ∧ p < b ∧ (hh = 0 ∨ hh = 1 ∨ hh = 2) ∧ e = .returned (.tuple #[.int .i64 p, .int .i64 hh]) ∧ Row blk w' d ∧ Fr blk W w' := by
  have hbl := h.lt
  have hq : blk ≠ W.heap.size := by omega
  have h8 : (8 : Int) ≤ (b : Int) - (a : Int) := by omega
  have H0 : Hid (Row blk (W.alloc (.cells #[.int .i64 0] 3)) d) := h.alloc _
  have HC0 : Hid (Cnt W.heap.size (W.alloc (.cells #[.int .i64 0] 3))) := ⟨0, by simp, frozen_of_row _ _ _ _ _ (heap_alloc_new W _)⟩
  have HF0 : Hid (Fr blk W (W.alloc (.cells #[.int .i64 0] 3))) := (Fr.refl _ _).alloc _
  clear h
  by_cases h50 : a + 50 ≤ b
  · have h50' : (50 : Int) ≤ (b : Int) - (a : Int) := by omega
    go_enter Yba.func23, Yba.ntmps23
    go_upto_region 12 with (first
      | (go_at_call 33; refine (adj_any blk n d hn h64 W.heap.size hq (a + (b - a) / 4) (by omega) (by omega) (by omega) _ H0.out HC0.out).mono ?_; rintro e w1 ⟨x1, l1, g1, rfl, hr1, hf1, hc1⟩)
      | (go_at_call 33; refine (adj_any blk n d hn h64 W.heap.size hq (a + (b - a) / 4 * 2) (by omega) (by omega) (by omega) _ hr1 hc1).mono ?_; rintro e w2 ⟨x2, l2, g2, rfl, hr2, hf2, hc2⟩)
      | (go_at_call 33; refine (adj_any blk n d hn h64 W.heap.size hq (a + (b - a) / 4 * 3) (by omega) (by omega) (by omega) _ hr2 hc2).mono ?_; rintro e w3 ⟨x3, l3, g3, rfl, hr3, hf3, hc3⟩)
      | (go_at_call 34; refine (median_any blk n d hn W.heap.size hq x1 x2 x3 (by omega) (by omega) (by omega) rfl rfl rfl _ hr3 hc3).mono ?_; rintro e w4 ⟨x4, hx4, rfl, hr4, hf4, hc4⟩))
    have HF : Hid (Fr blk W w4) := HF0.out.other (((hf1.trans hf2).trans hf3).trans hf4) (Nat.le_refl _)
    obtain ⟨s, hs, hfs⟩ := hc4
    clear hf1 hf2 hf3 hf4 hc1 hc2 hc3 hr1 hr2 hr3
    go_wp2
    all_goals
      go_ret2
      exact ⟨x4, _, by omega, by omega, by simp, rfl, hr4, HF.out⟩
  · have h50' : ¬ (50 : Int) ≤ (b : Int) - (a : Int) := by omega
    go_enter Yba.func23, Yba.ntmps23
    go_upto_region 12 with (go_at_call 34; refine (median_any blk n d hn W.heap.size hq (a + (b - a) / 4) (a + (b - a) / 4 * 2) (a + (b - a) / 4 * 3) (by omega) (by omega) (by omega) (by omega) (by omega) (by omega) _ H0.out HC0.out).mono ?_; rintro e w4 ⟨x4, hx4, rfl, hr4, hf4, hc4⟩)
    have HF : Hid (Fr blk W w4) := HF0.out.other hf4 (Nat.le_refl _)
    obtain ⟨s, hs, hfs⟩ := hc4
    clear hf4
    go_wp2
    all_goals
      go_ret2
      exact ⟨x4, _, by omega, by omega, by simp, rfl, hr4, HF.out⟩
end Go.Proofs.Ybulkahag
