import Derived.Test.YbulkagzsTime
namespace Go.Proofs.Ybulkagzs
open Go.RowKit
set_option linter.unusedVariables false
attribute [local go_sem] and_hi and_lo and_self andNot_zero or_zero wrap64u

set_option maxHeartbeats 1000000 in
theorem sec_any (b : Nat) (n e : Int) (h0 : 0 ≤ n) (h1 : n ≤ 999999999) (w : World) (hc : w.cell? ⟨b, 0, none⟩ = some (.int .u64 n)) (hd : w.cell? ⟨b, 1, none⟩ = some (.int .i64 e)) :
    Calls Yba.prog 24 #[.pointer (some ⟨b, 0, none⟩)] w fun r w' => r = .returned (.int .i64 e) ∧ w' = w := by
  go_enter Yba.func24, Yba.ntmps24
  go_wp2
  go_ret
  exact ⟨rfl, rfl⟩

set_option maxHeartbeats 1000000 in
theorem equal_any (n e : Int) (h0 : 0 ≤ n) (h1 : n ≤ 999999999) (w : World) :
    Calls Yba.prog 12 #[.agg #[.int .u64 n, .int .i64 e, .pointer none], .agg #[.int .u64 n, .int .i64 e, .pointer none]] w fun r w' => r = .returned (.bool true) ∧ Below w.heap.size w w' := by
  go_enter Yba.func12, Yba.ntmps12
  go_wp2_with (first | (go_at_call 24; refine (sec_any _ n e h0 h1 _ (by simp) (by simp)).mono ?_; rintro r w1 ⟨rfl, rfl⟩) | (go_at_call 20; refine (nsec_any _ n h0 h1 _ (by simp)).mono ?_; rintro r w1 ⟨rfl, rfl⟩))
  go_ret
  exact ⟨rfl, ((Below.refl _ _).alloc (Nat.le_refl _) _).alloc (by simp) _⟩
end Go.Proofs.Ybulkagzs
