import Derived.Test.YbulkagzsBits
namespace Go.Proofs.Ybulkagzs
open Go.RowKit
set_option linter.unusedVariables false
attribute [local go_sem] and_hi and_lo and_self andNot_zero or_zero wrap64u

set_option maxHeartbeats 1000000 in
theorem nsec_any (b : Nat) (n : Int) (h0 : 0 ≤ n) (h1 : n ≤ 999999999) (w : World) (hc : w.cell? ⟨b, 0, none⟩ = some (.int .u64 n)) :
    Calls Yba.prog 20 #[.pointer (some ⟨b, 0, none⟩)] w fun e w' => e = .returned (.int .i32 n) ∧ w' = w := by
  go_enter Yba.func20, Yba.ntmps20
  go_wp2
  go_ret
  exact ⟨rfl, rfl⟩

set_option maxHeartbeats 1000000 in
theorem addSec_any (b : Nat) (n q : Int) (h0 : 0 ≤ n) (h1 : n ≤ 999999999) (q1 : -9223372038 ≤ q) (q2 : q ≤ 9223372037) (w : World) (hc : w.cell? ⟨b, 0, none⟩ = some (.int .u64 n)) (hd : w.cell? ⟨b, 0 + 1, none⟩ = some (.int .i64 0)) (hf : w.frozen? ⟨b, 0 + 1, none⟩ = false) :
    Calls Yba.prog 21 #[.pointer (some ⟨b, 0, none⟩), .int .i64 q] w fun e w' => e = .returned (.tuple #[]) ∧ w' = w.setCell ⟨b, 0 + 1, none⟩ (.int .i64 q) := by
  go_enter Yba.func21, Yba.ntmps21
  go_wp2
  all_goals (first | (go_end0; exact ⟨rfl, rfl⟩) | skip)
  go_goals
  go_ways
end Go.Proofs.Ybulkagzs
