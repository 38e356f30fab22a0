import Derived.Test.YbulkagwmA
import Derived.Deep.RegionWith
namespace Go.Proofs.Ybulkagwm
open Go.RowKit
set_option linter.unusedVariables false

set_option maxHeartbeats 2000000 in
theorem appBytes (B n : Nat) (sv : Value) (xs : List Value) (ao : Option Addr) (m c : Nat) (ys : List Value) (w : World) (hown : w.ownsRow B 5 1 sv n xs) (hsrc : Src B w ao m c ys) (hBw : B ≤ w.heap.size) (hn : n ≤ 4096) (hm : m ≤ 1024) :
    Calls Yba.prog 11 #[sv, .slice ao m c] w fun e w' => ∃ v', e = .returned v' ∧ w'.ownsRow B 5 1 v' (n + 4 + m) (xs ++ be 4 m ++ ys) ∧ Below B w w' := by
  obtain ⟨i0, hi, hz0, hz1, hz2⟩ := info_parts Yba.info5
  go_enter Yba.func11, Yba.ntmps11
  go_wp2_with (first | (go_at_call 10; refine (app32 B n m (by omega) (by omega) sv xs _ (by exact hown) (by exact hBw) (by omega)).mono ?_; rintro e w1 ⟨v1, rfl, hown1, hg1⟩; have hb1 := below_of_grown hown hBw hg1; have hsrc1 := hsrc.kept hb1; have hs1 : w.heap.size ≤ w1.heap.size := hb1.size) | (at_builtin; refine wpList_append_src rfl _ _ 22 rfl B B 5 i0 (.int .u8 0) 1 Yba.underlying22 hi hz0 hz1 hz2 rfl _ _ _ rfl hown1 _ _ _ ys rfl hsrc1 ?c3 ?c4 ?c5 ?_))
  case c3 => unfold maxLen; omega
  case c4 => omega
  case c5 => omega
  intro v' w2 hown' hgrow
  go_wp2
  go_ret
  exact ⟨v', rfl, by rw [List.append_assoc]; exact hown', hb1.trans (below_of_grown hown1 (by omega) hgrow)⟩

set_option maxHeartbeats 4000000 in
theorem appFields (B n hb : Nat) (x : Int) (h0 : 0 ≤ x) (hx : x < 18446744073709551616) (y : Int) (g0 : 0 ≤ y) (hy : y < 4294967296) (sv : Value) (xs : List Value) (ao : Option Addr) (m c : Nat) (ys : List Value) (w : World) (hown : w.ownsRow B 5 1 sv n xs) (hsrc : Src B w ao m c ys)
    (hH : w.heap[hb]? = some (.cells #[.int .u64 x, .int .u32 y, .slice ao m c] 28 (0, 0))) (hBw : B ≤ w.heap.size) (hn : n ≤ 1024) (hm : m ≤ 1024) :
    Calls Yba.prog 5 #[.pointer (some ⟨hb, 0, none⟩), sv] w fun e w' => ∃ v', e = .returned v' ∧ w'.ownsRow B 5 1 v' (n + 8 + 4 + 4 + m) (xs ++ be 8 x ++ be 4 y ++ be 4 m ++ ys) ∧ Below B w w' := by
  have c0 : w.cell? ⟨hb, 0, none⟩ = some (.int .u64 x) := by rw [cell_of_row w hb 0 _ _ _ hH]; rfl
  go_enter Yba.func5, Yba.ntmps5
  go_wp2
  go_region_with (go_at_call 9; refine (app64 B n x h0 hx sv xs _ (by exact hown) (by exact hBw) (by omega)).mono ?_; rintro e w1 ⟨v1, rfl, hown1, hg1⟩)
  all_goals
    have hg1' : w.grownBy w1 sv.ownBlock := ⟨hg1.os, hg1.tape, hg1.output, hg1.size, hg1.block⟩
    have hH1 := kept28 hown hg1' hH
    have hb1 := below_of_grown hown hBw hg1'
    have hs1 : w.heap.size ≤ w1.heap.size := hb1.size
    have c1 : w1.cell? ⟨hb, 1, none⟩ = some (.int .u32 y) := by rw [cell_of_row w1 hb 1 _ _ _ hH1]; rfl
    clear hg1
    go_wp2
    go_region_with (go_at_call 10; refine (app32 B (n + 8) y g0 hy v1 (xs ++ be 8 x) _ (by exact hown1) (by exact (by omega : B ≤ w1.heap.size)) (by omega)).mono ?_; rintro e w2 ⟨v2, rfl, hown2, hg2⟩)
    all_goals
      have hg2' : w1.grownBy w2 v1.ownBlock := ⟨hg2.os, hg2.tape, hg2.output, hg2.size, hg2.block⟩
      have hH2 := kept28 hown1 hg2' hH1
      have hb2 := below_of_grown hown1 (by omega) hg2'
      have hs2 : w1.heap.size ≤ w2.heap.size := hb2.size
      have c2 : w2.cell? ⟨hb, 2, none⟩ = some (.slice ao m c) := by rw [cell_of_row w2 hb 2 _ _ _ hH2]; rfl
      have hsrc2 := (hsrc.kept hb1).kept hb2
      clear hg2
      go_wp2_with (go_at_call 11; refine (appBytes B (n + 8 + 4) v2 (xs ++ be 8 x ++ be 4 y) ao m c ys _ (by exact hown2) (by exact hsrc2) (by omega) (by omega) (by omega)).mono ?_; rintro e w3 ⟨v3, rfl, hown3, hb3⟩)
      go_ret
      exact ⟨v3, rfl, hown3, (hb1.trans hb2).trans hb3⟩
end Go.Proofs.Ybulkagwm
