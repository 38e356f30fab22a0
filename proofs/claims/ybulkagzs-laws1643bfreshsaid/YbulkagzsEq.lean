import Derived.Test.YbulkagzsNew
import Derived.ChangeKeysEq
namespace Go.Proofs.Ybulkagzs
open Go.RowKit
set_option linter.unusedVariables false

theorem plain5 : Yba.prog.plainKey 5 = true := by kernel_rfl
theorem cells5' : Yba.prog.cellsOf 5 = 1 := by kernel_rfl

theorem eqItems_same (w : World) (d : Nat) (bs : Array Value) : ∀ (is : List Nat), (∀ i ∈ is, ∃ n : Int, bs[i]? = some (.int .u8 n)) → (Op.eqItems (d + 1) 5 1 bs bs is).run Yba.prog w = .ok true w
  | [], _ => by simp [Op.eqItems]
  | i :: is, h => by
    obtain ⟨n, hn⟩ := h i (by simp)
    have hp := run_part_plain (P := Yba.prog) w plain5 (xs := bs) (off := i * 1) (by rw [Nat.mul_one]; exact hn)
    have he := run_equalIn_int (P := Yba.prog) w d 5 .u8 .u8 n n Yba.underlying5
    have ih := eqItems_same w d bs is (fun j hj => h j (by simp [hj]))
    simp only [Op.eqItems, Sem.run_bind, hp, he, Result.andThen_ok, beq_self_eq_true, Bool.not_true, Bool.false_eq_true, if_false]
    exact ih

theorem info5 : ∃ i, Yba.prog.info? 5 = some i := ⟨Yba.t5, by kernel_rfl⟩

theorem neq24 (bs : Array Value) (h : ∀ i, i < 20 → ∃ n : Int, bs[i]? = some (.int .u8 n)) (w : World) : (binOp .neq 24 (.agg bs) (.agg bs)).run Yba.prog w = .ok (.bool false) w := by
  obtain ⟨i, hi⟩ := info5
  rw [run_neq_struct]
  have h1 := run_equalIn_array (P := Yba.prog) w 9999 bs bs Yba.underlying24 hi
  rw [cells5'] at h1
  rw [h1, eqItems_same w 9998 bs (List.range 20) (fun i hi => h i (by simpa using hi))]
  rfl
theorem neq45 (w : World) : (binOp .neq 45 (.agg z45.toArray) (.agg z45.toArray)).run Yba.prog w = .ok (.bool false) w := by kernel_rfl

/-- the laws on a load of a row and on a build, at an operation that is guarded -/
theorem wpList_load_mid_g {P : Program} {ops : Array Oper} {rest : List Oper} {o : Oper} {a : Act} {w : World} {Q : Exit → Act → World → Prop} (ty : TypeId) (x : Operand) (ho : o.op = .load ty x) (hw : Region.wanted o (yielded ops a.tmps) = true)
    (b off : Nat) (hx : a.eval x = .pointer (some ⟨b, off, none⟩)) (cs : List Value) (d : TypeDesc) (hc : w.rangeAt b off cs)
    (hu : P.underlying ty = some d) (hd : d.isRow = true) (hi : (P.info? ty).map (·.size) = some cs.length)
    (h : wpList P ops Q rest (a.put o.dst (.agg cs.toArray)) w) : wpList P ops Q (o :: rest) a w :=
  BigFrame.wpList_want hw fun _ hK => wp_load_mid ty x ho b off hx cs d hc hu hd hi (hK _ _ h)
theorem wpList_neq_agg_g {P : Program} {ops : Array Oper} {rest : List Oper} {o : Oper} {a : Act} {w : World} {Q : Exit → Act → World → Prop} (t t' : TypeId) (x y : Operand) (ho : o.op = .binOp .neq t x y t') (hw : Region.wanted o (yielded ops a.tmps) = true)
    (xs ys : Array Value) (hx : a.eval x = .agg xs) (hy : a.eval y = .agg ys) (hm : P.eqGuardType P.depth t = false) (b : Bool) (hr : (binOp .neq t (.agg xs) (.agg ys)).run P w = .ok (.bool b) w)
    (h : wpList P ops Q rest (a.put o.dst (.bool b)) w) : wpList P ops Q (o :: rest) a w :=
  BigFrame.wpList_want hw fun _ hK => by
    unfold Oper.wp execOp
    simp only [ho, hx, hy, Sem.run_bind, run_eqGuard_agg w .neq t x y xs ys hm, hr, Result.andThen_ok, Sem.run_pure]
    exact hK _ _ h
theorem guard24 : Yba.prog.eqGuardType Yba.prog.depth 24 = false := by kernel_rfl
theorem guard45 : Yba.prog.eqGuardType Yba.prog.depth 45 = false := by kernel_rfl
theorem guard33 : Yba.prog.eqGuardType Yba.prog.depth 33 = false := by kernel_rfl
theorem Yba.size45 : (Yba.prog.info? 45).map (·.size) = some 22 := by kernel_rfl
end Go.Proofs.Ybulkagzs
