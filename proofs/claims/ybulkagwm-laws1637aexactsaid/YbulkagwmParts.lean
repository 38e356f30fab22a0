/-
  Plain words for seat b1637a: the bytes of a number, the greatest first. No Go in sight but the model's values.
-/
import Derived.Test.YbulkagwmRows
import Derived.WalkKit
import Derived.ProofKit
import Derived.Laws.AppendOwnNone
namespace Go.Proofs.Ybulkagwm
open Go.RowKit
set_option linter.unusedVariables false

theorem Yba.info5 : (Yba.prog.info? 5).map (fun i => (i.zero, i.size, i.bytes)) = some (some (.int .u8 0), 1, 1) := by kernel_rfl

/-- byte number i (the greatest first) of the n bytes of x -/
def beAt (n : Nat) (x : Int) (i : Nat) : Value := .int .u8 (x / 2 ^ (8 * (n - 1 - i)) % 256)
/-- the first k of the n bytes of x -/
def beTake (n : Nat) (x : Int) (k : Nat) : List Value := (List.range k).map (beAt n x)
/-- the n bytes of x -/
def be (n : Nat) (x : Int) : List Value := beTake n x n

theorem beTake_zero (n : Nat) (x : Int) : beTake n x 0 = [] := rfl
theorem beTake_succ (n : Nat) (x : Int) (k : Nat) : beTake n x (k + 1) = beTake n x k ++ [beAt n x k] := by
  simp [beTake, List.range_succ]
theorem beTake_length (n : Nat) (x : Int) (k : Nat) : (beTake n x k).length = k := by simp [beTake]
theorem be_length (n : Nat) (x : Int) : (be n x).length = n := beTake_length n x n

theorem be8 (x : Int) (h0 : 0 ≤ x) (h : x < 18446744073709551616) : be 8 x = [Value.int .u8 (x / 72057594037927936), .int .u8 (x / 281474976710656 % 256), .int .u8 (x / 1099511627776 % 256), .int .u8 (x / 4294967296 % 256),
    .int .u8 (x / 16777216 % 256), .int .u8 (x / 65536 % 256), .int .u8 (x / 256 % 256), .int .u8 (x % 256)] := by
  have e0 : x / 72057594037927936 % 256 = x / 72057594037927936 := by omega
  simp only [be, beTake, beAt, List.range_succ, List.range_zero, List.nil_append, List.cons_append, List.map_cons, List.map_nil]
  simp [e0]
theorem be4 (x : Int) (h0 : 0 ≤ x) (h : x < 4294967296) : be 4 x = [Value.int .u8 (x / 16777216), .int .u8 (x / 65536 % 256), .int .u8 (x / 256 % 256), .int .u8 (x % 256)] := by
  have e0 : x / 16777216 % 256 = x / 16777216 := by omega
  simp only [be, beTake, beAt, List.range_succ, List.range_zero, List.nil_append, List.cons_append, List.map_cons, List.map_nil]
  simp [e0]

theorem oneCell_be (n : Nat) (x : Int) : ∀ u ∈ be n x, u.oneCell' = true := by
  intro u hu
  simp only [be, beTake, List.mem_map] at hu
  obtain ⟨i, _, rfl⟩ := hu
  rfl

/-- 'grownBy' on top of 'grownBy', where the second row is new or the first's. -/
theorem grown_alloc {w w' : World} {row : Option Nat} (h : w.grownBy w' row) (o : Obj) : w.grownBy (w'.alloc o) row :=
  ⟨h.os, h.tape, h.output, by have := h.size; simp; omega, fun k hk hne => by rw [Below.heap_alloc _ _ _ (by have := h.size; omega)]; exact h.block k hk hne⟩

/-- A slice that is appended: nil, or a row of cells that all lie below block B. -/
def Src (B : Nat) (w : World) (ao : Option Addr) (m c : Nat) (ys : List Value) : Prop :=
  ys.length = m ∧ (∀ u ∈ ys, ∃ z : Int, u = .int .u8 z) ∧
  ((ao = none ∧ m = 0 ∧ c = 0) ∨ ∃ x : Addr, ao = some x ∧ ∀ j u, ys[j]? = some u → w.cell? (x.add j) = some u ∧ (x.add j).block < B)

theorem Src.kept {B : Nat} {w w' : World} {ao : Option Addr} {m c : Nat} {ys : List Value} (h : Src B w ao m c ys) (hb : Below B w w') : Src B w' ao m c ys := by
  obtain ⟨h1, h2, h3⟩ := h
  refine ⟨h1, h2, ?_⟩
  rcases h3 with h3 | ⟨x, hx, h3⟩
  · exact .inl h3
  · exact .inr ⟨x, hx, fun j u hu => ⟨(hb.cell (h3 j u hu).2).trans (h3 j u hu).1, (h3 j u hu).2⟩⟩

theorem wpList_append_src {P : Program} {w : World} {ops : Array Oper} {rest : List Oper} {o : Oper} {a : Act} {Q : Exit → Act → World → Prop} (hgd : o.guard = none) (s x : Operand) (t : TypeId)
    (ho : o.op = .call { callee := .builtin .append, args := #[s, x], argTypes := #[t, t] })
    (B base : Nat) (e : TypeId) (i : TypeInfo) (z : Value) (bytes : Nat) (ht : P.underlying t = some (.slice e)) (hi : P.info? e = some i) (hz : i.zero = some z)
    (hsize : i.size = 1) (hby : i.bytes = bytes) (hzs : z.cells.size = 1)
    (v : Value) (n : Nat) (xs : List Value) (hs : a.eval s = v) (hown : w.ownsRow base e 1 v n xs)
    (ao : Option Addr) (m c : Nat) (news : List Value) (hx : a.eval x = .slice ao m c) (hsrc : Src B w ao m c news)
    (h63 : n + m ≤ maxLen) (hbytes : (n + m) * bytes ≤ 140737488355328) (hbase : base ≤ w.heap.size)
    (h : ∀ v' w', w'.ownsRow base e 1 v' (n + m) (xs ++ news) → w.grownBy w' v.ownBlock → wpList P ops Q rest (a.put o.dst v') w') : wpList P ops Q (o :: rest) a w := by
  obtain ⟨h1, h2, h3⟩ := hsrc
  rcases h3 with ⟨rfl, rfl, rfl⟩ | ⟨ad, rfl, h3⟩
  · obtain rfl : news = [] := List.eq_nil_of_length_eq_zero h1
    refine wpList_append_own_none hgd s x t ho base e i 1 ht hi v n xs hs hown hx ?_
    exact h v w (by simpa using hown) ⟨rfl, rfl, rfl, Nat.le_refl _, fun _ _ _ => rfl⟩
  · exact wpList_append_own w hgd s x t ho base e i z 1 bytes ht hi hz hsize hby hzs (by decide) v n xs hs hown ad m c news hx (by simpa using h1) (fun j u hu => (h3 j u hu).1)
      (fun u hu => by obtain ⟨z, rfl⟩ := h2 u hu; rfl) h63 hbytes hbase (fun v' w' a1 a2 _ => h v' w' a1 a2)

theorem kept28 {B : Nat} {w w' : World} {sv : Value} {n : Nat} {xs : List Value} (hown : w.ownsRow B 5 1 sv n xs) (hg : w.grownBy w' sv.ownBlock) {hb : Nat} {cs : Array Value}
    (hH : w.heap[hb]? = some (.cells cs 28 (0, 0))) : w'.heap[hb]? = some (.cells cs 28 (0, 0)) := by
  rw [hg.block hb (Array.getElem?_eq_some_iff.1 hH).1 ?_]
  · exact hH
  · rcases hown.2 with ⟨rfl, _⟩ | ⟨g, cap, cur, rfl, _, hgg, _⟩
    · simp [Value.ownBlock]
    · intro e
      simp only [Value.ownBlock, Option.some.injEq] at e
      subst e
      rw [hH] at hgg
      simp at hgg

theorem below_of_grown {B : Nat} {w w' : World} {sv : Value} {n : Nat} {xs : List Value} (hown : w.ownsRow B 5 1 sv n xs) (hBw : B ≤ w.heap.size) (hg : w.grownBy w' sv.ownBlock) : Below B w w' :=
  (Below.refl B w).grown hg hBw (fun k hk => (hown.lt k hk).1)
end Go.Proofs.Ybulkagwm
