import Derived.Test.YbulkahagMrgP
import Derived.Maps.OwnOps
namespace Go.Proofs.Ybulkahag
open Go.RowKit Go.Maps
set_option linter.unusedVariables false

/-- is bit k set? (as the walk spells it) -/
def bit (m : Int) (k : Nat) : Bool := bits .and .u64 (m / 2 ^ k) 1 == 1

/-- what the places say -/
structure Pl (w : World) (ao : Option Addr) (len : Nat) (pl : Nat → Int) : Prop where
  wf : ∀ k, k < 64 → (Lit.int .i32 (pl k)).wf = true
  at_ : (len = 0 ∧ ∀ k, pl k = -(k : Int)) ∨ ∃ x, ao = some x ∧ 0 < len ∧ len ≤ 1024 ∧ ∀ k, k < 64 → w.cell? (x.add (k % len)) = some (.int .i32 (pl k))

theorem Pl.kept {w w' : World} {ao : Option Addr} {len : Nat} {pl : Nat → Int} (h : Pl w ao len pl) (hb : Below w.heap.size w w') : Pl w' ao len pl := by
  refine ⟨h.wf, ?_⟩
  rcases h.at_ with h0 | ⟨x, rfl, h1, h2, h3⟩
  · exact .inl h0
  · refine .inr ⟨x, rfl, h1, h2, fun k hk => ?_⟩
    have hc := h3 k hk
    exact (hb.cell (World.block_lt_of_cell? w _ hc)).trans hc

theorem place_any (ao : Option Addr) (len cap : Nat) (pl : Nat → Int) (k : Nat) (hk : k < 64) (w : World) (h : Pl w ao len pl) :
    Calls Yba.prog 10 #[.slice ao len cap, .int .i64 k] w fun e w' => e = .returned (.int .i32 (pl k)) ∧ w' = w := by
  rcases h.at_ with ⟨rfl, h0⟩ | ⟨x, rfl, h1, h2, h3⟩
  · have e := h0 k
    clear h h0
    go_enter Yba.func10, Yba.ntmps10
    go_wp2
    go_ret
    exact ⟨by rw [e]; rfl, rfl⟩
  · have hc := h3 k hk
    have e1 : ((len : Int) == 0) = false := by simp; omega
    have e2 : ((k : Int) % (len : Int)) < (len : Int) := Int.emod_lt_of_pos _ (by omega)
    have e3 : 0 ≤ ((k : Int) % (len : Int)) := Int.emod_nonneg _ (by omega)
    clear h h3
    generalize pl k = v at *
    go_enter Yba.func10, Yba.ntmps10
    go_wp2
    go_ret
    exact ⟨rfl, rfl⟩

theorem info84 : (Yba.prog.info? 84).map (fun i => (i.zero, i.size, i.bytes)) = some (some (.agg #[.int .i32 0, .int .i32 0]), 2, 8) := by kernel_rfl
theorem keyed21 : Keyed Yba.prog 21 := int_keyed Yba.underlying21

theorem two_new (w : World) (x y : Value) (t : TypeId) : ∀ j u, [x, y][j]? = some u → (w.alloc (.cells #[x, y] t)).cell? ((⟨w.heap.size, 0, none⟩ : Addr).add j) = some u := by
  intro j u hj
  match j, hj with
  | 0, hj => simp at hj; subst hj; simp [Addr.add]
  | 1, hj => simp at hj; subst hj; simp [Addr.add]
  | (j + 2), hj => simp at hj

theorem cellsOf_append (a b : List Kp) : cellsOf (a ++ b) = cellsOf a ++ cellsOf b := by simp [cellsOf]

end Go.Proofs.Ybulkahag
