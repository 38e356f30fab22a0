import Derived.Test.YbulkagzsTime
namespace Go.Proofs.Ybulkagzs
open Go.RowKit
set_option linter.unusedVariables false
attribute [local go_sem] and_hi and_lo and_self andNot_zero or_zero wrap64u

set_option maxHeartbeats 1000000 in
theorem add_pos (d : Int) (w : World) (h3 : 0 ≤ d.tmod 1000000000) (m2 : d.tmod 1000000000 ≤ 999999999) (q1 : -9223372037 ≤ d.tdiv 1000000000) (q2 : d.tdiv 1000000000 ≤ 9223372037) :
    Calls Yba.prog 10 #[.agg #[.int .u64 0, .int .i64 0, .pointer none], .int .i64 d] w fun e w' => ∃ wall ext : Int, e = .returned (.agg #[.int .u64 wall, .int .i64 ext, .pointer none]) ∧ 0 ≤ wall ∧ wall ≤ 999999999 ∧ Below w.heap.size w w' := by
  go_enter Yba.func10, Yba.ntmps10
  go_wp2_with (first | (go_at_call 20; refine (nsec_any w.heap.size 0 (by omega) (by omega) _ (by simp)).mono ?_; rintro e w1 ⟨rfl, rfl⟩) | (go_at_call 21; refine (addSec_any w.heap.size (d.tmod 1000000000) (d.tdiv 1000000000) (by omega) (by omega) (by omega) (by omega) _ (by simp) (by simp) (by simp)).mono ?_; rintro e w1 ⟨rfl, rfl⟩))
  refine bodyPost_ret (v := .agg #[.int .u64 (d.tmod 1000000000), .int .i64 (d.tdiv 1000000000), .pointer none]) (by simp [results, Yba.results10, go_sem]) rfl ⟨_, _, rfl, h3, m2, ?_⟩
  exact ((Below.refl _ _).alloc (Nat.le_refl _) _).alloc (by simp) _

set_option maxHeartbeats 1000000 in
theorem add_neg (d : Int) (w : World) (h3 : d.tmod 1000000000 < 0) (m2 : -999999999 ≤ d.tmod 1000000000) (m3 : 0 ≤ d.tmod 1000000000 + 1000000000) (m4 : d.tmod 1000000000 + 1000000000 ≤ 999999999) (q1 : -9223372037 ≤ d.tdiv 1000000000) (q2 : d.tdiv 1000000000 ≤ 9223372037) :
    Calls Yba.prog 10 #[.agg #[.int .u64 0, .int .i64 0, .pointer none], .int .i64 d] w fun e w' => ∃ wall ext : Int, e = .returned (.agg #[.int .u64 wall, .int .i64 ext, .pointer none]) ∧ 0 ≤ wall ∧ wall ≤ 999999999 ∧ Below w.heap.size w w' := by
  go_enter Yba.func10, Yba.ntmps10
  go_wp2_with (first | (go_at_call 20; refine (nsec_any w.heap.size 0 (by omega) (by omega) _ (by simp)).mono ?_; rintro e w1 ⟨rfl, rfl⟩) | (go_at_call 21; refine (addSec_any w.heap.size (d.tmod 1000000000 + 1000000000) (d.tdiv 1000000000 - 1) (by omega) (by omega) (by omega) (by omega) _ (by simp) (by simp) (by simp)).mono ?_; rintro e w1 ⟨rfl, rfl⟩))
  refine bodyPost_ret (v := .agg #[.int .u64 (d.tmod 1000000000 + 1000000000), .int .i64 (d.tdiv 1000000000 - 1), .pointer none]) (by simp [results, Yba.results10, go_sem]) rfl ⟨_, _, rfl, m3, m4, ?_⟩
  exact ((Below.refl _ _).alloc (Nat.le_refl _) _).alloc (by simp) _

/-- 'time.Time{}.Add(d)': some time with no monotonic reading and no location. -/
theorem add_any (d : Int) (h1 : -9223372036854775808 ≤ d) (h2 : d ≤ 9223372036854775807) (w : World) :
    Calls Yba.prog 10 #[.agg #[.int .u64 0, .int .i64 0, .pointer none], .int .i64 d] w fun e w' => ∃ wall ext : Int, e = .returned (.agg #[.int .u64 wall, .int .i64 ext, .pointer none]) ∧ 0 ≤ wall ∧ wall ≤ 999999999 ∧ Below w.heap.size w w' := by
  obtain ⟨m1, m2⟩ := tmod_bd d
  obtain ⟨q1, q2⟩ := tdiv_bd d h1 h2
  by_cases h : d.tmod 1000000000 < 0
  · exact add_neg d w h (by omega) (by omega) (by omega) q1 q2
  · exact add_pos d w (by omega) (by omega) q1 q2
end Go.Proofs.Ybulkagzs
