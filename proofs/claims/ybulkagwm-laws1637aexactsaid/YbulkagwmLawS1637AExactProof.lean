/-
  THE PROOF OF 'Rows.LawS1637AExactSaid': the frame was written by program (proof-skeleton.mjs); the walk and its lemmas are ours.
-/
import Derived.Test.YbulkagwmRows
import Derived.WalkKit
import Derived.ProofKit
import Derived.OpenShut
import Derived.ShutString
import Derived.ChangeOld
import Derived.Below
import Derived.Test.YbulkagwmB
import Derived.Test.YbulkagwmC
import Derived.Test.YbulkagwmD
namespace Go.Proofs.Ybulkagwm.lawS1637AExact
open Go.ChangeShapes Go.WideShapes Go.ChangeAt Go.RowKit
open Go.ChangeMaps (open_string shut_string)
set_option linter.unusedVariables false

theorem own : ownKnob Yba.prog.godebug = none := by kernel_rfl
theorem laidOut : laidOutB Yba.prog = true := by kernel_rfl

/-- WHAT THE WALK IS TOLD OF A SLICE OF INTEGERS THAT CAME IN: it is nil; or it leads to a row of 'cap' cells, the numbers 'zs' (the first 'len' are its elements, the rest its spare room), each fitting its kind. -/
def IsRow (k : IntKind) (w : World) (a : Option Addr) (len cap : Nat) (zs : List Int) : Prop :=
  (a = none ∧ len = 0 ∧ cap = 0 ∧ zs = []) ∨
  ∃ x, a = some x ∧ len ≤ cap ∧ cap ≤ maxLen ∧ zs.length = cap ∧ (∀ i, i < zs.length → w.cell? (x.add i) = some (.int k (zs.getD i 0))) ∧ ∀ n ∈ zs, (Lit.int k n).wf = true

/-! ### STEP 1: THE WALK -/
theorem src_of (w : World) (a : Option Addr) (len cap : Nat) (zs : List Int) (h : IsRow .u8 w a len cap zs) : Src w.heap.size w a len cap ((zs.take len).map (Value.int .u8)) := by
  rcases h with ⟨rfl, rfl, rfl, rfl⟩ | ⟨x, rfl, hl, hm, hz, hc, hw⟩
  · exact ⟨rfl, fun u hu => by simp at hu, .inl ⟨rfl, rfl, rfl⟩⟩
  · refine ⟨by simp; omega, fun u hu => ?_, .inr ⟨x, rfl, fun j u hu => ?_⟩⟩
    · simp only [List.mem_map] at hu
      obtain ⟨z, _, rfl⟩ := hu
      exact ⟨z, rfl⟩
    · rw [List.getElem?_map, List.getElem?_take] at hu
      split at hu
      · have hj : j < zs.length := by omega
        have := hc j hj
        rw [List.getElem?_eq_getElem hj] at hu
        simp only [Option.map_some, Option.some.injEq] at hu
        rw [List.getD_eq_getElem?_getD, List.getElem?_eq_getElem hj, Option.getD_some, hu] at this
        exact ⟨this, World.block_lt_of_cell? w _ this⟩
      · simp at hu

theorem bytes_of {B : Nat} {w : World} {ao : Option Addr} {m c : Nat} {ys : List Value} (h : Src B w ao m c ys) : ∀ u ∈ ys, ∃ z : Int, u = .int .u8 z := h.2.1
theorem bytes_be (n : Nat) (x : Int) : ∀ u ∈ be n x, ∃ z : Int, u = .int .u8 z := by
  intro u hu
  simp only [be, beTake, List.mem_map] at hu
  obtain ⟨i, _, rfl⟩ := hu
  exact ⟨_, rfl⟩
theorem bytes_append {a b : List Value} (ha : ∀ u ∈ a, ∃ z : Int, u = .int .u8 z) (hb : ∀ u ∈ b, ∃ z : Int, u = .int .u8 z) : ∀ u ∈ a ++ b, ∃ z : Int, u = .int .u8 z := by
  intro u hu
  rcases List.mem_append.1 hu with h | h
  · exact ha u h
  · exact hb u h

/-- a slice that owns at least one element has an address -/
theorem own_addr {B : Nat} {w : World} {v : Value} {n : Nat} {xs : List Value} (h : w.ownsRow B 5 1 v n xs) (hn : 0 < n) : ∃ g cap, v = .slice (some ⟨g, 0, none⟩) n cap ∧ g < w.heap.size ∧ ∀ j, j < n → w.cell? ⟨g, j, none⟩ = xs[j]? := by
  rcases h.2 with ⟨rfl, h0⟩ | ⟨g, cap, cur, rfl, hb, hg, _⟩
  · omega
  · exact ⟨g, cap, rfl, (Array.getElem?_eq_some_iff.1 hg).1, fun j hj => World.ownsRow.cellAt h j (by omega)⟩

theorem own_below {B B' : Nat} {w w' : World} {v : Value} {n : Nat} {xs : List Value} (h : w.ownsRow B 5 1 v n xs) (hB : w.heap.size ≤ B') (hb : Below B' w w') : w'.ownsRow B 5 1 v n xs := by
  refine ⟨h.1, ?_⟩
  rcases h.2 with h0 | ⟨g, cap, cur, rfl, hb', hg, rest⟩
  · exact .inl h0
  · exact .inr ⟨g, cap, cur, rfl, hb', by rw [hb.block g (by have := (Array.getElem?_eq_some_iff.1 hg).1; omega)]; exact hg, rest⟩

set_option maxHeartbeats 8000000 in
theorem walk (a0 : Option Addr) (len0 cap0 : Nat) (z0 : List Int) (a1 : Int) (a2 : Int) (a3 : Option Addr) (len3 cap3 : Nat) (z3 : List Int) (w : World) (w0 : IsRow .u8 w a0 len0 cap0 z0) (w1 : (Lit.int .u64 a1).wf = true) (w2 : (Lit.int .u32 a2).wf = true) (w3 : IsRow .u8 w a3 len3 cap3 z3) :
    Calls Yba.prog 3 #[.slice a0 len0 cap0, .int .u64 a1, .int .u32 a2, .slice a3 len3 cap3] w fun e w' => e = .returned (.bool true) ∧ Below w.heap.size w w' := by
  have s0 := src_of w a0 len0 cap0 z0 w0
  have s3 := src_of w a3 len3 cap3 z3 w3
  have b1 := bounds_u64 w1
  have b2 := bounds_u32 w2
  generalize hy0 : (z0.take len0).map (Value.int .u8) = y0 at s0
  generalize hy3 : (z3.take len3).map (Value.int .u8) = y3 at s3
  clear w0 w1 w2 w3 hy0 hy3
  by_cases c0 : 1024 < (len0 : Int)
  · go_enter Yba.func3, Yba.ntmps3
    go_wp2
    go_ret
    exact ⟨rfl, Below.refl _ _⟩
  by_cases c3 : 1024 < (len3 : Int)
  · go_enter Yba.func3, Yba.ntmps3
    go_wp2
    go_ret
    exact ⟨rfl, Below.refl _ _⟩
  obtain ⟨i0, hi, hz0, hz1, hz2⟩ := info_parts Yba.info5
  go_enter Yba.func3, Yba.ntmps3
  go_wp2_with (at_builtin; refine wpList_append_src rfl (.const (.slice none 0 0)) _ 22 rfl w.heap.size w.heap.size 5 i0 (.int .u8 0) 1 Yba.underlying22 hi hz0 hz1 hz2 rfl _ 0 [] rfl (World.ownsRow_nil _ _ _ _) _ _ _ y0 rfl s0 (by unfold maxLen; omega) (by omega) (Nat.le_refl _) ?_; intro v1 w1 hown1 hg1)
  have hb1 : Below w.heap.size w w1 := below_of_grown (World.ownsRow_nil w w.heap.size 5 1) (Nat.le_refl _) hg1
  simp only [Nat.zero_add, List.nil_append] at hown1
  have hz1' : w.heap.size ≤ w1.heap.size := hb1.size
  have hbA : Below w.heap.size w (w1.alloc (.cells #[.int .u64 a1, .int .u32 a2, .slice a3 len3 cap3] 28)) := hb1.alloc hz1' _
  refine (appFields w.heap.size len0 w1.heap.size a1 b1.1 (by omega) a2 b2.1 (by omega) v1 y0 a3 len3 cap3 y3 _ (hown1.alloc _) (s3.kept hbA) (heap_alloc_new _ _) (by simp; omega) (by omega) (by omega)).mono ?_
  rintro e w2 ⟨v2, rfl, hown2, hb2⟩
  have hbB := hbA.trans hb2
  have s0B := s0.kept hbB
  have s3B := s3.kept hbB
  have hz2' : w.heap.size ≤ w2.heap.size := hbB.size
  clear hown1 hg1 hb1 hbA hb2
  go_wp2_with (at_builtin; refine wpList_append_src rfl (.tmp 31) (.tmp 32) 22 rfl w.heap.size w2.heap.size 5 i0 (.int .u8 0) 1 Yba.underlying22 hi hz0 hz1 hz2 rfl _ 0 [] rfl (World.ownsRow_nil _ _ _ _) _ _ _ y0 rfl s0B (by unfold maxLen; omega) (by omega) (Nat.le_refl _) ?_; intro v3 w3 hown3 hg3)
  have hb3 : Below w2.heap.size w2 w3 := below_of_grown (World.ownsRow_nil w2 w2.heap.size 5 1) (Nat.le_refl _) hg3
  simp only [Nat.zero_add, List.nil_append] at hown3
  have hz3 : w2.heap.size ≤ w3.heap.size := hb3.size
  clear hg3
  refine (be_any w2.heap.size len0 8 (by omega) a1 b1.1 (by omega) v3 y0 _ (by exact hown3) hz3 (by omega)).mono ?_
  rintro e w4 ⟨v4, rfl, hown4, hb4⟩
  have hz4 : w3.heap.size ≤ w4.heap.size := hb4.size
  clear hown3
  go_wp2_with fail
  refine (be_any w2.heap.size (len0 + 8) 4 (by omega) a2 b2.1 (by omega) v4 (y0 ++ be 8 a1) _ (by exact hown4) (by omega) (by omega)).mono ?_
  rintro e w5 ⟨v5, rfl, hown5, hb5⟩
  have hz5 : w4.heap.size ≤ w5.heap.size := hb5.size
  clear hown4
  go_wp2_with fail
  refine (be_any w2.heap.size (len0 + 8 + 4) 4 (by omega) len3 (by omega) (by omega) v5 (y0 ++ be 8 a1 ++ be 4 a2) _ (by exact hown5) (by omega) (by omega)).mono ?_
  rintro e w6 ⟨v6, rfl, hown6, hb6⟩
  have hz6 : w5.heap.size ≤ w6.heap.size := hb6.size
  clear hown5
  have hbC : Below w2.heap.size w2 w6 := ((hb3.trans hb4).trans hb5).trans hb6
  have s3C := s3B.kept (hbC.mono hz2')
  clear hb3 hb4 hb5 hb6
  go_wp2_with (at_builtin; refine wpList_append_src rfl (.tmp 46) (.tmp 47) 22 rfl w.heap.size w2.heap.size 5 i0 (.int .u8 0) 1 Yba.underlying22 hi hz0 hz1 hz2 rfl _ (len0 + 8 + 4 + 4) (y0 ++ be 8 a1 ++ be 4 a2 ++ be 4 len3) rfl hown6 _ _ _ y3 rfl s3C (by unfold maxLen; omega) (by omega) (by omega) ?_; intro v7 w7 hown7 hg7)
  have hb7 : Below w2.heap.size w6 w7 := below_of_grown hown6 (by omega) hg7
  have hbD := hbC.trans hb7
  have hown2' := own_below hown2 (Nat.le_refl _) hbD
  obtain ⟨g, c, hv2, hg, hc⟩ := own_addr hown2' (by omega)
  obtain ⟨g', c', hv7, hg', hc'⟩ := own_addr hown7 (by omega)
  have hlen : ∀ j, j < len0 + 8 + 4 + 4 + len3 → ∃ z : Int, w7.cell? ⟨g, j, none⟩ = some (.int .u8 z) ∧ w7.cell? ⟨g', j, none⟩ = some (.int .u8 z) := by
    intro j hj
    have hl : j < (y0 ++ be 8 a1 ++ be 4 a2 ++ be 4 (len3 : Int) ++ y3).length := by
      simp only [List.length_append, be_length, s0.1, s3.1]; omega
    obtain ⟨z, hz⟩ := bytes_append (bytes_append (bytes_append (bytes_append (bytes_of s0) (bytes_be 8 a1)) (bytes_be 4 a2)) (bytes_be 4 len3)) (bytes_of s3) _ (List.getElem_mem hl)
    refine ⟨z, ?_, ?_⟩
    · rw [hc j hj, List.getElem?_eq_getElem hl, hz]
    · rw [hc' j hj]
      simp only [List.append_assoc] at hz hl ⊢
      rw [List.getElem?_eq_getElem hl, hz]
  rw [hv2, hv7]
  refine (eq_yes g g' _ c c' (by unfold maxLen; omega) _ hlen).mono ?_
  rintro e w8 ⟨rfl, hb8⟩
  have hz7 := hbD.size
  clear hown2 hown2' hown6 hown7 hlen hc hc' s0 s3 s0B s3B s3C hg7 hb7 hbC
  go_wp2
  go_ret
  exact ⟨rfl, (hbB.trans (hbD.mono hz2')).trans (hb8.mono (by omega))⟩

/-! ### THE ROW's STEP: WRITTEN OUT: LEAVE IT -/
set_option maxRecDepth 100000 in
theorem lifted (os : Os) (started : os.Started) (H : Type) (enc : TypeId × Value → H) :
    ReturnsInHanded {} Yba.checked os 3 .any (Rows.lawS1637AExactSpec.pre6 enc Yba.prog Yba.f3 Rows.lawS1637AExactRow.domain false) (Rows.lawS1637AExactSpec.post enc Yba.prog Yba.f3 false true false false) := by
  refine returnsInHanded_of_change (C := Yba.checked) own started (by kernel_rfl) Yba.func3
    (ChangeSpec.witness6 (enc := enc) (C := Yba.checked) false ⟨#[], #[.slice none 0 0, .int .u64 0, .int .u32 0, .slice none 0 0], []⟩ 8 (by kernel_rfl) (by kernel_rfl) (by kernel_rfl) (by kernel_rfl)) ?_
  intro W base args ds gs before hval0 hW hcnd _
  have hval : ∀ (j : Nat) t v, Yba.f3.params[j]? = some t → args[j]? = some v → Value.okWide Yba.prog W .any base t v := hval0
  have hW' := hW
  obtain ⟨p, q, hA0, hV, rfl, hfz, hnd⟩ := hW
  have hA : DataW.TrodAll enc Yba.prog W 0 (fun _ => true) true Yba.f3.params.toList args.toList ds p := hA0
  rw [Yba.params3] at hA hval
  obtain ⟨v0, vs0, d0, ds0, p0, q0, hargs, rfl, rfl, h0, r0⟩ := trodAll_cons hA
  obtain ⟨v1, vs1, d1, ds1, p1, q1, rfl, rfl, rfl, h1, r1⟩ := trodAll_cons r0
  obtain ⟨v2, vs2, d2, ds2, p2, q2, rfl, rfl, rfl, h2, r2⟩ := trodAll_cons r1
  obtain ⟨v3, vs3, d3, ds3, p3, q3, rfl, rfl, rfl, h3, r3⟩ := trodAll_cons r2
  obtain ⟨rfl, rfl, rfl⟩ := trodAll_nil r3
  obtain rfl : args = #[v0, v1, v2, v3] := by cases args; simp_all
  obtain ⟨rfl, rfl⟩ := trodVars_none hV
  obtain ⟨a0, len0, cap0, rfl⟩ := okWide_slice Yba.underlying22 (hval 0 22 v0 rfl rfl)
  have k0 := h0
  have lt0 : ∀ x ∈ p0, x.block < W.heap.size := by obtain ⟨m, hm⟩ := k0; exact DataW.trod_lt m _ _ _ hm
  obtain ⟨z0, w0⟩ : ∃ zs, IsRow .u8 W a0 len0 cap0 zs := by
    obtain ⟨fuel, hf⟩ := h0
    rcases open_ints Yba.underlying22 Yba.underlying5 (by kernel_rfl) hf with ⟨hcs, _⟩ | ⟨x, l, c, zs, hcs, _, hl, hm, hz, _, hcell, hwz⟩
    · simp [Value.cells] at hcs
      obtain ⟨rfl, rfl, rfl⟩ := hcs
      exact ⟨[], .inl ⟨rfl, rfl, rfl, rfl⟩⟩
    · simp [Value.cells] at hcs
      obtain ⟨rfl, rfl, rfl⟩ := hcs
      exact ⟨zs, .inr ⟨_, rfl, hl, hm, by simpa using hz, hcell, hwz⟩⟩
  obtain ⟨a1, rfl, rfl, rfl, w1⟩ := open_int Yba.underlying23 (hval 1 23 v1 rfl rfl) h1
  obtain ⟨a2, rfl, rfl, rfl, w2⟩ := open_int Yba.underlying24 (hval 2 24 v2 rfl rfl) h2
  obtain ⟨a3, len3, cap3, rfl⟩ := okWide_slice Yba.underlying22 (hval 3 22 v3 rfl rfl)
  have k3 := h3
  have lt3 : ∀ x ∈ p3, x.block < W.heap.size := by obtain ⟨m, hm⟩ := k3; exact DataW.trod_lt m _ _ _ hm
  obtain ⟨z3, w3⟩ : ∃ zs, IsRow .u8 W a3 len3 cap3 zs := by
    obtain ⟨fuel, hf⟩ := h3
    rcases open_ints Yba.underlying22 Yba.underlying5 (by kernel_rfl) hf with ⟨hcs, _⟩ | ⟨x, l, c, zs, hcs, _, hl, hm, hz, _, hcell, hwz⟩
    · simp [Value.cells] at hcs
      obtain ⟨rfl, rfl, rfl⟩ := hcs
      exact ⟨[], .inl ⟨rfl, rfl, rfl, rfl⟩⟩
    · simp [Value.cells] at hcs
      obtain ⟨rfl, rfl, rfl⟩ := hcs
      exact ⟨zs, .inr ⟨_, rfl, hl, hm, by simpa using hz, hcell, hwz⟩⟩
  clear hA0 hval0
  refine (walk a0 len0 cap0 z0 a1 a2 a3 len3 cap3 z3 W w0 w1 w2 w3).mono fun e W' ⟨he, bel⟩ => ?_
  subst he
  exact ⟨_, rfl, _, _, _, [], _, [], hW', trodAll_mk1 (shut_bool Yba.underlying4 _), (trodAll_cons_mk (Below.trod laidOut (by kernel_rfl) (of_decide_eq_true (by kernel_rfl)) k0 bel lt0) (trodAll_cons_mk (shut_int Yba.underlying23 w1) (trodAll_cons_mk (shut_int Yba.underlying24 w2) (trodAll_cons_mk (Below.trod laidOut (by kernel_rfl) (of_decide_eq_true (by kernel_rfl)) k3 bel lt3) trodAll_mk0)))), rfl, bel.frame _, fun h => by cases h⟩

theorem over : Rows.lawS1637AExactRow.holds Yba.pinned (OpenSpec.ofChange Rows.lawS1637AExactSpec) :=
  OpenClaim.holds_of_wide 3 Yba.f3 rfl rfl rfl rfl rfl rfl rfl ⟨rfl, rfl, rfl, rfl, rfl⟩ rfl rfl rfl rfl rfl (by kernel_rfl) Yba.func3 (by kernel_rfl)
    (of_decide_eq_true (by kernel_rfl)) (by unfold Func.isWrapper; first | (rw [if_pos (by decide +kernel)]; kernel_rfl) | (rw [if_neg (by decide +kernel)]; exact ⟨rfl, rfl⟩))
    (fun os started H enc _ => lifted os started H enc)

/-- ████ THE STATEMENT ████ -/
theorem proved : Rows.LawS1637AExactSaid := over
#print axioms proved
end Go.Proofs.Ybulkagwm.lawS1637AExact
