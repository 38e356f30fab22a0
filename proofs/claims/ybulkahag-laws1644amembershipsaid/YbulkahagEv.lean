import Derived.Test.YbulkahagRows
import Derived.WalkKit
import Derived.WalkLawsBesides
import Derived.ProofKit
import Derived.OpenShut
import Derived.Maps.OwnSet
import Derived.Maps.Views
import Derived.Maps.OwnOps
namespace Go.Proofs.Ybulkahag
open Go.RowKit
set_option linter.unusedVariables false

/-- "displayname", "membership", "avatar_url", "m.room.member", "m.room.join_rules", "m.room.create" -/
def sDisp : ByteArray := ⟨#[100, 105, 115, 112, 108, 97, 121, 110, 97, 109, 101]⟩
def sMemb : ByteArray := ⟨#[109, 101, 109, 98, 101, 114, 115, 104, 105, 112]⟩
def sAvat : ByteArray := ⟨#[97, 118, 97, 116, 97, 114, 95, 117, 114, 108]⟩

theorem ta1 : ∀ (s : ByteArray) (w : World), (Instr.typeAssert (.iface 9 (.string s)) 20 9 true).run Yba.prog w = .ok (.tuple #[.string s, .bool true]) w := fun _ _ => by kernel_rfl
theorem ta2 : ∀ (n : Int) (w : World), (Instr.typeAssert (.iface 2 (.int .i64 n)) 20 9 true).run Yba.prog w = .ok (.tuple #[.string ⟨#[]⟩, .bool false]) w := fun _ _ => by kernel_rfl
theorem ta3 : ∀ (w : World), (Instr.typeAssert .nilIface 20 9 true).run Yba.prog w = .ok (.tuple #[.string ⟨#[]⟩, .bool false]) w := fun _ => by kernel_rfl

set_option maxHeartbeats 1000000 in
set_option maxRecDepth 100000 in
theorem evA (eb cb : Nat) (key mem : ByteArray) (w : World) (h0 : w.cell? ⟨eb, 11, none⟩ = some (.slice (some ⟨cb, 0, none⟩) 2 2)) (c0 : w.cell? ⟨cb, 0, none⟩ = some (.string ⟨#[100, 105, 115, 112, 108, 97, 121, 110, 97, 109, 101]⟩)) (c1 : w.cell? ⟨cb, 1, none⟩ = some (.iface 9 (.string key)))
    (c2 : w.cell? ⟨cb, 2, none⟩ = some (.string ⟨#[109, 101, 109, 98, 101, 114, 115, 104, 105, 112]⟩)) (c3 : w.cell? ⟨cb, 3, none⟩ = some (.iface 9 (.string mem))) :
    Calls Yba.prog 11 #[.pointer (some ⟨eb, 0, none⟩)] w fun e w' => e = .returned (.tuple #[.string mem, .bool true]) ∧ Below w.heap.size w w' := by
  have l0 : cb < w.heap.size := World.block_lt_of_cell? w _ c0
  have l1 : cb < w.heap.size + 1 := by omega
  have l2 : cb < w.heap.size + 1 + 1 := by omega
  have ta := ta1
  have tb := ta2
  have tc := ta3
  go_enter Yba.func11, Yba.ntmps11
  go_wp2
  refine wp_loop_rounds 3 ?_
  rw [rounds_succ]
  go_wp2
  rw [rounds_succ]
  go_wp2
  go_ret2
  exact ⟨rfl, ((((Below.refl _ _).alloc (Nat.le_refl _) _).alloc (by simp) _).alloc (by simp; omega) _).alloc (by simp; omega) _⟩

set_option maxHeartbeats 1000000 in
set_option maxRecDepth 100000 in
theorem evB (eb cb : Nat) (n : Int) (w : World) (h0 : w.cell? ⟨eb, 11, none⟩ = some (.slice (some ⟨cb, 0, none⟩) 1 1)) (c0 : w.cell? ⟨cb, 0, none⟩ = some (.string ⟨#[109, 101, 109, 98, 101, 114, 115, 104, 105, 112]⟩)) (c1 : w.cell? ⟨cb, 1, none⟩ = some (.iface 2 (.int .i64 n))) :
    Calls Yba.prog 11 #[.pointer (some ⟨eb, 0, none⟩)] w fun e w' => e = .returned (.tuple #[.string ⟨#[]⟩, .bool false]) ∧ Below w.heap.size w w' := by
  have l0 : cb < w.heap.size := World.block_lt_of_cell? w _ c0
  have l1 : cb < w.heap.size + 1 := by omega
  have l2 : cb < w.heap.size + 1 + 1 := by omega
  have ta := ta1
  have tb := ta2
  have tc := ta3
  go_enter Yba.func11, Yba.ntmps11
  go_wp2
  refine wp_loop_rounds 3 ?_
  rw [rounds_succ]
  go_wp2
  go_ret2
  exact ⟨rfl, (((Below.refl _ _).alloc (Nat.le_refl _) _).alloc (by simp) _).alloc (by simp; omega) _⟩

set_option maxHeartbeats 1000000 in
set_option maxRecDepth 100000 in
theorem evC (eb cb : Nat) (mem : ByteArray) (w : World) (h0 : w.cell? ⟨eb, 11, none⟩ = some (.slice (some ⟨cb, 0, none⟩) 1 1)) (c0 : w.cell? ⟨cb, 0, none⟩ = some (.string ⟨#[97, 118, 97, 116, 97, 114, 95, 117, 114, 108]⟩)) (c1 : w.cell? ⟨cb, 1, none⟩ = some (.iface 9 (.string mem))) :
    Calls Yba.prog 11 #[.pointer (some ⟨eb, 0, none⟩)] w fun e w' => e = .returned (.tuple #[.string ⟨#[]⟩, .bool false]) ∧ Below w.heap.size w w' := by
  have l0 : cb < w.heap.size := World.block_lt_of_cell? w _ c0
  have l1 : cb < w.heap.size + 1 := by omega
  have l2 : cb < w.heap.size + 1 + 1 := by omega
  have ta := ta1
  have tb := ta2
  have tc := ta3
  go_enter Yba.func11, Yba.ntmps11
  go_wp2
  refine wp_loop_rounds 3 ?_
  rw [rounds_succ]
  go_wp2
  rw [rounds_succ]
  go_wp2
  go_ret2
  exact ⟨rfl, (((Below.refl _ _).alloc (Nat.le_refl _) _).alloc (by simp) _).alloc (by simp; omega) _⟩
end Go.Proofs.Ybulkahag
