/-
  Seat b1644a: the row of keyPlace (two cells each) that sort.Sort turns; the methods of byKey. Our own words: 'Row' says what the row holds, 'Fr' that all other blocks stand.
-/
import Derived.Test.YbulkahagRows
import Derived.WalkKit
import Derived.WalkLawsBesides
import Derived.BigQuiet
import Derived.Deep.DeepCutAuto
import Derived.Deep.CutBlock
import Derived.Sort.AssemblyPlain
namespace Go.Proofs.Ybulkahag
open Go.RowKit
set_option linter.unusedVariables false

abbrev Kp := Int × Int
def cellsOf (l : List Kp) : List Value := l.flatMap fun x => [.int .i32 x.1, .int .i32 x.2]
def flat (d : Array Kp) : Array Value := (cellsOf d.toList).toArray

theorem cellsOf_cons (x : Kp) (l : List Kp) : cellsOf (x :: l) = .int .i32 x.1 :: .int .i32 x.2 :: cellsOf l := rfl
theorem cellsOf_length (l : List Kp) : (cellsOf l).length = l.length * 2 := by
  induction l with
  | nil => rfl
  | cons x l ih => rw [cellsOf_cons]; simp [ih]; omega
theorem flat_size (d : Array Kp) : (flat d).size = d.size * 2 := by simp [flat, cellsOf_length]

theorem cellsOf_at (l : List Kp) (i : Nat) (x : Kp) (h : l[i]? = some x) : (cellsOf l)[i * 2]? = some (.int .i32 x.1) ∧ (cellsOf l)[i * 2 + 1]? = some (.int .i32 x.2) := by
  induction l generalizing i with
  | nil => simp at h
  | cons y l ih =>
    cases i with
    | zero => simp at h; subst h; exact ⟨rfl, rfl⟩
    | succ i =>
      simp at h
      have := ih i h
      rw [cellsOf_cons, show (i + 1) * 2 = i * 2 + 1 + 1 by omega]
      simpa using this

theorem cellsOf_set (l : List Kp) (i : Nat) (x : Kp) (h : i < l.length) : ((cellsOf l).set (i * 2) (.int .i32 x.1)).set (i * 2 + 1) (.int .i32 x.2) = cellsOf (l.set i x) := by
  induction l generalizing i with
  | nil => simp at h
  | cons y l ih =>
    cases i with
    | zero => rfl
    | succ i =>
      have := ih i (by simpa using h)
      rw [cellsOf_cons, show (i + 1) * 2 = i * 2 + 1 + 1 by omega]
      simp only [List.set_cons_succ, cellsOf_cons]
      rw [this]

theorem get!_of {d : Array Kp} {i : Nat} (h : i < d.size) : d.toList[i]? = some d[i]! := by
  rw [getElem!_pos d i h, List.getElem?_eq_getElem (by simpa using h)]
  simp

theorem flat_at {d : Array Kp} {i : Nat} (h : i < d.size) : (flat d)[i * 2]? = some (.int .i32 d[i]!.1) ∧ (flat d)[i * 2 + 1]? = some (.int .i32 d[i]!.2) := by
  have := cellsOf_at d.toList i _ (get!_of h)
  simpa [flat] using this

theorem flat_set {d : Array Kp} {i : Nat} (h : i < d.size) (x : Kp) : ((flat d).setIfInBounds (i * 2) (.int .i32 x.1)).setIfInBounds (i * 2 + 1) (.int .i32 x.2) = flat (d.setIfInBounds i x) := by
  apply Array.toList_inj.1
  have := cellsOf_set d.toList i x (by simpa using h)
  simpa [flat] using this

theorem flat_swp {d : Array Kp} {i j : Nat} (hi : i < d.size) (hj : j < d.size) :
    (((((flat d).setIfInBounds (i * 2) (.int .i32 d[j]!.1)).setIfInBounds (i * 2 + 1) (.int .i32 d[j]!.2)).setIfInBounds (j * 2) (.int .i32 d[i]!.1)).setIfInBounds (j * 2 + 1) (.int .i32 d[i]!.2)) = flat (Sort.swp d i j) := by
  rw [flat_set hi, flat_set (by simpa using hj)]
  rfl

/-- the row of block blk holds d -/
def Row (blk : Nat) (W : World) (d : Array Kp) : Prop := W.heap[blk]? = some (.cells (flat d) 84 (0, 0))
/-- all other blocks stand -/
structure Fr (blk : Nat) (W W' : World) : Prop where
  os : W'.os = W.os
  tape : W'.tape = W.tape
  output : W'.output = W.output
  size : W.heap.size ≤ W'.heap.size
  block : ∀ k, k < W.heap.size → k ≠ blk → W'.heap[k]? = W.heap[k]?

theorem Fr.refl (blk : Nat) (W : World) : Fr blk W W := ⟨rfl, rfl, rfl, Nat.le_refl _, fun _ _ _ => rfl⟩
theorem Fr.trans {blk : Nat} {A B C : World} (h : Fr blk A B) (k : Fr blk B C) : Fr blk A C :=
  ⟨k.os.trans h.os, k.tape.trans h.tape, k.output.trans h.output, Nat.le_trans h.size k.size, fun j hj hne => (k.block j (Nat.lt_of_lt_of_le hj h.size) hne).trans (h.block j hj hne)⟩
theorem Fr.drewN {blk : Nat} {A B : World} (h : Fr blk A B) (n : Nat) : Fr blk A (B.drewN n) := ⟨h.os, h.tape, h.output, h.size, h.block⟩
theorem Fr.alloc {blk : Nat} {A B : World} (h : Fr blk A B) (o : Obj) : Fr blk A (B.alloc o) :=
  ⟨h.os, h.tape, h.output, Nat.le_trans h.size (by simp), fun k hk hne => (Below.heap_alloc _ _ _ (Nat.lt_of_lt_of_le hk h.size)).trans (h.block k hk hne)⟩
theorem Row.drewN {blk : Nat} {W : World} {d : Array Kp} (h : Row blk W d) (n : Nat) : Row blk (W.drewN n) d := h
theorem Row.lt {blk : Nat} {W : World} {d : Array Kp} (h : Row blk W d) : blk < W.heap.size := (Array.getElem?_eq_some_iff.1 h).1
theorem Row.alloc {blk : Nat} {W : World} {d : Array Kp} (h : Row blk W d) (o : Obj) : Row blk (W.alloc o) d := (Below.heap_alloc _ _ _ h.lt).trans h
theorem Row.cells {blk : Nat} {W : World} {d : Array Kp} (h : Row blk W d) {i : Nat} (hi : i < d.size) :
    W.cell? ⟨blk, i * 2, none⟩ = some (.int .i32 d[i]!.1) ∧ W.cell? ⟨blk, i * 2 + 1, none⟩ = some (.int .i32 d[i]!.2) ∧ W.frozen? ⟨blk, i * 2, none⟩ = false ∧ W.frozen? ⟨blk, i * 2 + 1, none⟩ = false := by
  have hf := flat_at hi
  exact ⟨(cell_of_row W blk _ _ _ _ h).trans hf.1, (cell_of_row W blk _ _ _ _ h).trans hf.2, frozen_of_row W blk _ _ _ h, frozen_of_row W blk _ _ _ h⟩

/-- what Less says -/
def lt (x y : Kp) : Bool := decide (x.1 < y.1)

abbrev rvOf (blk n : Nat) : Value := .slice (some ⟨blk, 0, none⟩) n n

theorem len_any (blk n : Nat) (W : World) : Calls Yba.prog 60 #[rvOf blk n] W fun e w' => e = .returned (.int .i64 n) ∧ w' = W := by
  go_enter Yba.func60, Yba.ntmps60
  go_wp2
  go_ret
  exact ⟨rfl, rfl⟩

theorem less_any (blk n : Nat) (d : Array Kp) (hn : d.size = n) (i j : Nat) (hi : i < n) (hj : j < n) (W : World) (h : Row blk W d) :
    Calls Yba.prog 61 #[rvOf blk n, .int .i64 i, .int .i64 j] W fun e w' => e = .returned (.bool (lt d[i]! d[j]!)) ∧ Row blk w' d ∧ Fr blk W w' := by
  obtain ⟨c0, c1, _, _⟩ := h.cells (i := i) (by omega)
  obtain ⟨e0, e1, _, _⟩ := h.cells (i := j) (by omega)
  have hi' : (i : Int) < (n : Int) := by omega
  have hj' : (j : Int) < (n : Int) := by omega
  have H : Hid (Row blk W d) := h
  generalize d[i]! = x at *
  generalize d[j]! = y at *
  clear h hn
  go_enter Yba.func61, Yba.ntmps61
  go_upto_region 1 with fail
  go_quiet (fail)
  go_wp2
  go_ret
  exact ⟨rfl, H.out.drewN _, (Fr.refl _ _).drewN _⟩

theorem heap_set4 (W : World) (blk a b c e : Nat) (cs : Array Value) (t : TypeId) (x y z u : Value) (h : W.heap[blk]? = some (.cells cs t (0, 0))) :
    ((((W.setCell ⟨blk, a, none⟩ x).setCell ⟨blk, b, none⟩ y).setCell ⟨blk, c, none⟩ z).setCell ⟨blk, e, none⟩ u).heap[blk]? = some (.cells ((((cs.setIfInBounds a x).setIfInBounds b y).setIfInBounds c z).setIfInBounds e u) t (0, 0)) :=
  heap_setCell_same _ blk e _ t u (heap_setCell_same _ blk c _ t z (heap_setCell_same _ blk b _ t y (heap_setCell_same W blk a cs t x h)))

theorem fr_set (W : World) (blk a : Nat) (x : Value) : Fr blk W (W.setCell ⟨blk, a, none⟩ x) := ⟨rfl, rfl, rfl, by simp, fun k _ hne => Below.heap_setCell _ _ _ _ hne⟩

set_option maxHeartbeats 2000000 in
theorem swap_any (blk n : Nat) (d : Array Kp) (hn : d.size = n) (i j : Nat) (hi : i < n) (hj : j < n) (W : World) (h : Row blk W d) :
    Calls Yba.prog 62 #[rvOf blk n, .int .i64 i, .int .i64 j] W fun e w' => e = .returned (.tuple #[]) ∧ Row blk w' (Sort.swp d i j) ∧ Fr blk W w' := by
  obtain ⟨c0, c1, c2, c3⟩ := h.cells (i := i) (by omega)
  obtain ⟨e0, e1, e2, e3⟩ := h.cells (i := j) (by omega)
  have hi' : (i : Int) < (n : Int) := by omega
  have hj' : (j : Int) < (n : Int) := by omega
  have H : Hid (∀ q, Row blk (((((W.setCell ⟨blk, i * 2, none⟩ (.int .i32 d[j]!.1)).setCell ⟨blk, i * 2 + 1, none⟩ (.int .i32 d[j]!.2)).setCell ⟨blk, j * 2, none⟩ (.int .i32 d[i]!.1)).setCell ⟨blk, j * 2 + 1, none⟩ (.int .i32 d[i]!.2)).drewN q) (Sort.swp d i j)) := by
    intro q
    refine (heap_set4 W blk _ _ _ _ _ _ _ _ _ _ h).trans ?_
    rw [flat_swp (by omega) (by omega)]
  have HF : Hid (∀ x y z u q, Fr blk W (((((W.setCell ⟨blk, i * 2, none⟩ x).setCell ⟨blk, i * 2 + 1, none⟩ y).setCell ⟨blk, j * 2, none⟩ z).setCell ⟨blk, j * 2 + 1, none⟩ u).drewN q)) :=
    fun x y z u q => ((((fr_set _ _ _ _).trans (fr_set _ _ _ _)).trans (fr_set _ _ _ _)).trans (fr_set _ _ _ _)).drewN q
  generalize Sort.swp d i j = D at *
  clear h hn
  by_cases hij : i = j
  · subst hij
    generalize d[i]! = x at *
    go_enter Yba.func62, Yba.ntmps62
    go_region
    go_end0
    exact ⟨rfl, H.out 1, HF.out _ _ _ _ 1⟩
  · have n1 : ¬ i * 2 = j * 2 := by omega
    have n2 : ¬ i * 2 + 1 = j * 2 := by omega
    have n3 : ¬ i * 2 = j * 2 + 1 := by omega
    have n4 : ¬ i * 2 + 1 = j * 2 + 1 := by omega
    have m1 : ¬ j * 2 = i * 2 := by omega
    have m2 : ¬ j * 2 + 1 = i * 2 := by omega
    have m3 : ¬ j * 2 = i * 2 + 1 := by omega
    have m4 : ¬ j * 2 + 1 = i * 2 + 1 := by omega
    generalize d[i]! = x at *
    generalize d[j]! = y at *
    go_enter Yba.func62, Yba.ntmps62
    go_region
    go_end0
    exact ⟨rfl, H.out 1, HF.out _ _ _ _ 1⟩
end Go.Proofs.Ybulkahag
