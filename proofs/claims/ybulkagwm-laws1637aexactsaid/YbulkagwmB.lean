import Derived.Test.YbulkagwmParts
namespace Go.Proofs.Ybulkagwm
open Go.RowKit
set_option linter.unusedVariables false

set_option maxHeartbeats 2000000 in
theorem be_any (B n m : Nat) (hm : m ≤ 8) (x : Int) (h0 : 0 ≤ x) (hx : x < 18446744073709551616) (sv : Value) (xs : List Value) (w : World) (hown : w.ownsRow B 5 1 sv n xs) (hBw : B ≤ w.heap.size) (hlim : n + 8 ≤ 140737488355328) :
    Calls Yba.prog 6 #[sv, .int .u64 x, .int .i64 m] w fun e w' => ∃ v', e = .returned v' ∧ w'.ownsRow B 5 1 v' (n + m) (xs ++ be m x) ∧ Below B w w' := by
  obtain ⟨i0, hi, hz0, hz1, hz2⟩ := info_parts Yba.info5
  go_enter Yba.func6, Yba.ntmps6
  go_wp2
  go_loopw [0, 7] (fun v i wr => ∃ k : Nat, k ≤ m ∧ i = .int .i64 k ∧ wr.ownsRow B 5 1 v (n + k) (xs ++ beTake m x k) ∧ Below B w wr) (fun _ i _ => m - (intOf i).toNat)
  case atStart => exact ⟨0, Nat.zero_le _, rfl, by simpa [beTake_zero] using hown, Below.refl _ _⟩
  case round =>
    obtain ⟨k, hk, rfl, hownr, hnx⟩ := hrel
    by_cases hlt : k < m
    · have hlt' : (k : Int) < (m : Int) := by omega
      go_wp2_with (at_builtin; refine wpList_append_own _ rfl _ _ 22 rfl B 5 i0 (.int .u8 0) 1 1 Yba.underlying22 hi hz0 hz1 hz2 rfl (by decide) _ _ _ rfl (hownr.alloc _) ⟨wr.heap.size, 0, none⟩ 1 1 [Value.int .u8 (x / 2 ^ (8 * (m - 1 - k)) % 256)] rfl rfl ?c1 ?c2 ?c3 ?c4 ?c5 ?_)
      case c1 =>
        intro j u hj
        match j, hj with
        | 0, hj => simp at hj; subst hj; simp [Addr.add]
      case c2 => intro u hu; simp at hu; subst hu; rfl
      case c3 => unfold maxLen; omega
      case c4 => omega
      case c5 => have := hnx.size; simp; omega
      · intro v' w1 hown' hgrow _
        have R : w1.ownsRow B 5 1 v' (n + (k + 1)) (xs ++ beTake m x (k + 1)) ∧ Below B w w1 := by
          refine ⟨?_, ?_⟩
          · rw [beTake_succ]; exact hown'
          · exact (hnx.alloc (by have := hnx.size; omega) _).grown hgrow (by have := hnx.size; simp; omega) (fun j hj => (hownr.lt j hj).1)
        clear hown' hgrow hownr
        go_wp2
        go_roundw
        case rel => exact ⟨k + 1, by omega, by go_num, R.1, R.2⟩
        case measure => simp [intOf]; omega
    · go_wp2
      go_ret
      obtain rfl : k = m := by omega
      exact ⟨_, rfl, hownr, hnx⟩
end Go.Proofs.Ybulkagwm
