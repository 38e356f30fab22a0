import Derived.Test.YbulkagzsGrow
import Derived.Laws.AppendOwnNone
namespace Go.Proofs.Ybulkagzs
open Go.RowKit
set_option linter.unusedVariables false

theorem add0 (m j : Nat) : (⟨m, 0, none⟩ : Addr).add j = ⟨m, j, none⟩ := by unfold Addr.add; split <;> simp_all

theorem z45_one : ∀ u ∈ z45 ++ z45, u.oneCell' = true := by
  intro u hu
  simp [z45] at hu
  rcases hu with rfl | rfl | rfl | rfl | rfl | rfl <;> rfl

set_option maxHeartbeats 2000000 in
theorem concat30 (b m : Nat) (w : World) (hb : b < w.heap.size) (hm : m < w.heap.size) (c0 : w.cell? ⟨b, 0, none⟩ = some (.slice none 0 0)) (c1 : w.cell? ⟨b, 1, none⟩ = some (.slice (some ⟨m, 0, none⟩) 2 2))
    (cm : ∀ j u, (z45 ++ z45)[j]? = some u → w.cell? ⟨m, j, none⟩ = some u) :
    Calls Yba.prog 30 #[.slice (some ⟨b, 0, none⟩) 2 2] w fun e w' => ∃ v, e = .returned v ∧ w'.ownsRow w.heap.size 45 22 v 2 (z45 ++ z45) ∧ Below w.heap.size w w' := by
  obtain ⟨i0, hi, hz0, hz1, hz2⟩ := info_parts Yba.info45
  have Hcm : Hid (∀ j u, (z45 ++ z45)[j]? = some u → w.cell? ⟨m, j, none⟩ = some u) := cm
  clear cm
  go_enter Yba.func30, Yba.ntmps30
  go_wp2
  refine wp_loop_rounds 3 ?_
  rw [rounds_succ]
  go_wp2
  rw [rounds_succ]
  go_wp2
  rw [rounds_succ]
  go_wp2_with fail
  refine (grow48 w).mono ?_
  rintro e w1 ⟨cap, rfl, hown1, hb1⟩
  have c0' : w1.cell? ⟨b, 0, none⟩ = some (.slice none 0 0) := (hb1.cell (p := ⟨b, 0, none⟩) hb).trans c0
  have c1' : w1.cell? ⟨b, 1, none⟩ = some (.slice (some ⟨m, 0, none⟩) 2 2) := (hb1.cell (p := ⟨b, 1, none⟩) hb).trans c1
  have hz := hb1.size
  go_wp2
  refine wp_loop_rounds 3 ?_
  rw [rounds_succ]
  go_wp2_with (at_builtin; refine wpList_append_own_none rfl (.tmp 31) (.tmp 32) 36 rfl w.heap.size 45 i0 22 Yba.underlying36 hi _ 0 [] rfl hown1 rfl ?_)
  rw [rounds_succ]
  go_wp2_with (at_builtin; refine wpList_append_own _ rfl (.tmp 31) (.tmp 32) 36 rfl w.heap.size 45 i0 (.agg z45.toArray) 22 32 Yba.underlying36 hi hz0 hz1 hz2 rfl (by decide) _ 0 [] rfl hown1 _ 2 2 (z45 ++ z45) rfl rfl ?d1 ?d2 ?d3 ?d4 ?d5 ?_)
  case d1 => intro j u hj; rw [add0]; exact (hb1.cell (p := ⟨m, j, none⟩) hm).trans (Hcm.out j u hj)
  case d2 => exact z45_one
  case d3 => unfold maxLen; omega
  case d4 => omega
  case d5 => omega
  intro v2 w2 hown2 hg2 _
  clear c0' c1' c0 c1
  go_wp2
  rw [rounds_succ]
  go_wp2
  go_ret
  exact ⟨_, rfl, by simpa using hown2, (hb1.grown hg2 (by omega) (fun k hk => (hown1.lt k hk).1))⟩
set_option maxHeartbeats 2000000 in
theorem concat31 (b m : Nat) (w : World) (hb : b < w.heap.size) (hm : m < w.heap.size) (c0 : w.cell? ⟨b, 0, none⟩ = some (.slice none 0 0)) (c1 : w.cell? ⟨b, 1, none⟩ = some (.slice (some ⟨m, 0, none⟩) 1 1))
    (cm : ∀ j u, (([.int .i32 0] : List Value))[j]? = some u → w.cell? ⟨m, j, none⟩ = some u) :
    Calls Yba.prog 31 #[.slice (some ⟨b, 0, none⟩) 2 2] w fun e w' => ∃ v, e = .returned v ∧ w'.ownsRow w.heap.size 21 1 v 1 (([.int .i32 0] : List Value)) ∧ Below w.heap.size w w' := by
  obtain ⟨i0, hi, hz0, hz1, hz2⟩ := info_parts Yba.info21
  have Hcm : Hid (∀ j u, (([.int .i32 0] : List Value))[j]? = some u → w.cell? ⟨m, j, none⟩ = some u) := cm
  clear cm
  go_enter Yba.func31, Yba.ntmps31
  go_wp2
  refine wp_loop_rounds 3 ?_
  rw [rounds_succ]
  go_wp2
  rw [rounds_succ]
  go_wp2
  rw [rounds_succ]
  go_wp2_with fail
  refine (grow49 w).mono ?_
  rintro e w1 ⟨cap, rfl, hown1, hb1⟩
  have c0' : w1.cell? ⟨b, 0, none⟩ = some (.slice none 0 0) := (hb1.cell (p := ⟨b, 0, none⟩) hb).trans c0
  have c1' : w1.cell? ⟨b, 1, none⟩ = some (.slice (some ⟨m, 0, none⟩) 1 1) := (hb1.cell (p := ⟨b, 1, none⟩) hb).trans c1
  have hz := hb1.size
  go_wp2
  refine wp_loop_rounds 3 ?_
  rw [rounds_succ]
  go_wp2_with (at_builtin; refine wpList_append_own_none rfl (.tmp 31) (.tmp 32) 37 rfl w.heap.size 21 i0 1 Yba.underlying37 hi _ 0 [] rfl hown1 rfl ?_)
  rw [rounds_succ]
  go_wp2_with (at_builtin; refine wpList_append_own _ rfl (.tmp 31) (.tmp 32) 37 rfl w.heap.size 21 i0 (.int .i32 0) 1 4 Yba.underlying37 hi hz0 hz1 hz2 rfl (by decide) _ 0 [] rfl hown1 _ 1 1 (([.int .i32 0] : List Value)) rfl rfl ?d1 ?d2 ?d3 ?d4 ?d5 ?_)
  case d1 => intro j u hj; rw [add0]; exact (hb1.cell (p := ⟨m, j, none⟩) hm).trans (Hcm.out j u hj)
  case d2 => intro u hu; simp at hu; subst hu; rfl
  case d3 => unfold maxLen; omega
  case d4 => omega
  case d5 => omega
  intro v2 w2 hown2 hg2 _
  clear c0' c1' c0 c1
  go_wp2
  rw [rounds_succ]
  go_wp2
  go_ret
  exact ⟨_, rfl, by simpa using hown2, (hb1.grown hg2 (by omega) (fun k hk => (hown1.lt k hk).1))⟩
end Go.Proofs.Ybulkagzs
