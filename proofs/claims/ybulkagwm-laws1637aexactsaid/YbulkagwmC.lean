import Derived.Test.YbulkagwmParts
import Derived.Deep.QuietTactic
import Derived.BigQuiet
import Derived.WalkSmall
namespace Go.Proofs.Ybulkagwm
open Go.RowKit
set_option linter.unusedVariables false

set_option maxHeartbeats 2000000 in
/-- the two slices hold the same bytes: zzs1637aeq says so -/
theorem eq_yes (g g' n c c' : Nat) (hn : n ≤ maxLen) (w : World)
    (hc : ∀ j, j < n → ∃ z : Int, w.cell? ⟨g, j, none⟩ = some (.int .u8 z) ∧ w.cell? ⟨g', j, none⟩ = some (.int .u8 z)) :
    Calls Yba.prog 7 #[.slice (some ⟨g, 0, none⟩) n c, .slice (some ⟨g', 0, none⟩) n c'] w fun e w' => e = .returned (.bool true) ∧ Below w.heap.size w w' := by
  unfold maxLen at hn
  go_enter Yba.func7, Yba.ntmps7
  go_wp2
  go_loopw [5] (fun i wr => ∃ k : Nat, k ≤ n ∧ i = .int .i64 k ∧ Below w.heap.size w wr ∧ wr.heap = w.heap) (fun i _ => n - (intOf i).toNat)
  case atStart => exact ⟨0, Nat.zero_le _, rfl, Below.refl _ _, rfl⟩
  case round =>
    obtain ⟨k, hk, rfl, hnx, hh⟩ := hrel
    by_cases hlt : k < n
    · have hlt' : (k : Int) < (n : Int) := by omega
      obtain ⟨z, z1, z2⟩ := hc k hlt
      have c1 : wr.cell? ⟨g, k, none⟩ = some (.int .u8 z) := by simpa [World.cell?, hh] using z1
      have c2 : wr.cell? ⟨g', k, none⟩ = some (.int .u8 z) := by simpa [World.cell?, hh] using z2
      have HH : Hid (wr.heap = w.heap) := hh
      clear hh hc z1 z2
      go_wp2
      go_quiet (fail)
      go_wp2
      go_roundw
      case rel => exact ⟨k + 1, by omega, by go_num, below_drewN hnx _, HH.out⟩
      case measure => simp [intOf]; omega
    · go_wp2
      go_ret
      exact ⟨rfl, hnx⟩
end Go.Proofs.Ybulkagwm
