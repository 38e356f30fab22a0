import Derived.Test.YbulkagzsConcat
import Derived.Test.YbulkagzsAdd
import Derived.Deep.RegionHeld3
import Derived.Deep.DeepCutAuto
namespace Go.Proofs.Ybulkagzs
open Go.RowKit
set_option linter.unusedVariables false

theorem make36 : ∀ w : World, (Instr.makeSlice 36 (.int .i64 2) (.int .i64 2)).run Yba.prog w = .ok (.slice (some ⟨w.heap.size, 0, none⟩) 2 2) (w.alloc (.cells (z45 ++ z45).toArray 45)) := fun _ => by kernel_rfl
theorem make37 : ∀ w : World, (Instr.makeSlice 37 (.int .i64 1) (.int .i64 1)).run Yba.prog w = .ok (.slice (some ⟨w.heap.size, 0, none⟩) 1 1) (w.alloc (.cells #[.int .i32 0] 21)) := fun _ => by kernel_rfl

theorem ownsRow_weaken {w : World} {b b' : Nat} {e : TypeId} {size : Nat} {v : Value} {n : Nat} {xs : List Value} (h : w.ownsRow b e size v n xs) (hb : b' ≤ b) : w.ownsRow b' e size v n xs := by
  refine ⟨h.1, ?_⟩
  rcases h.2 with h0 | ⟨g, cap, cur, h1, h2, r⟩
  · exact .inl h0
  · exact .inr ⟨g, cap, cur, h1, by omega, r⟩

theorem own_form {w : World} {b : Nat} {e : TypeId} {size : Nat} {v : Value} {n : Nat} {xs : List Value} (h : w.ownsRow b e size v n xs) (hn : 0 < n) : ∃ g cap, v = .slice (some ⟨g, 0, none⟩) n cap := by
  rcases h.2 with ⟨_, h0⟩ | ⟨g, cap, cur, h1, _⟩
  · omega
  · exact ⟨g, cap, h1⟩

theorem heapA (w : World) (o o' : Obj) : ((w.alloc o).alloc o').drew.heap[w.heap.size]? = some o := by
  show ((w.alloc o).alloc o').heap[w.heap.size]? = some o
  rw [Below.heap_alloc _ _ _ (by simp)]
  exact heap_alloc_new w o
theorem heapB (w : World) (o o' : Obj) : ((w.alloc o).alloc o').drew.heap[w.heap.size + 1]? = some o' := by
  show ((w.alloc o).alloc o').heap[w.heap.size + 1]? = some o'
  have := heap_alloc_new (w.alloc o) o'
  simpa using this

theorem concatA (w : World) :
    Calls Yba.prog 30 #[.slice (some ⟨w.heap.size + 1, 0, none⟩) 2 2] ((w.alloc (.cells (z45 ++ z45).toArray 45)).alloc (.cells #[.slice none 0 0, .slice (some ⟨w.heap.size, 0, none⟩) 2 2] 36)).drew fun e w' => ∃ g cap, e = .returned (.slice (some ⟨g, 0, none⟩) 2 cap) ∧ w'.ownsRow w.heap.size 45 22 (.slice (some ⟨g, 0, none⟩) 2 cap) 2 (z45 ++ z45) ∧ Below w.heap.size w w' := by
  refine (concat30 (w.heap.size + 1) w.heap.size _ (by simp) (by simp; omega) ?_ ?_ ?_).mono ?_
  · rw [cell_of_row _ _ _ _ _ _ (heapB _ _ _)]; rfl
  · rw [cell_of_row _ _ _ _ _ _ (heapB _ _ _)]; rfl
  · intro j u hj
    rw [cell_of_row _ _ _ _ _ _ (heapA _ _ _)]
    simpa using hj
  · rintro e w1 ⟨v, rfl, hown, hb⟩
    obtain ⟨g, cap, rfl⟩ := own_form hown (by decide)
    refine ⟨g, cap, rfl, ownsRow_weaken hown (by simp; omega), ?_⟩
    exact ((((Below.refl _ _).alloc (Nat.le_refl _) _).alloc (by simp) _).drew).trans (hb.mono (by simp; omega))
theorem concatB (w : World) :
    Calls Yba.prog 31 #[.slice (some ⟨w.heap.size + 1, 0, none⟩) 2 2] ((w.alloc (.cells #[.int .i32 0] 21)).alloc (.cells #[.slice none 0 0, .slice (some ⟨w.heap.size, 0, none⟩) 1 1] 37)).drew fun e w' => ∃ g cap, e = .returned (.slice (some ⟨g, 0, none⟩) 1 cap) ∧ w'.ownsRow w.heap.size 21 1 (.slice (some ⟨g, 0, none⟩) 1 cap) 1 [.int .i32 0] ∧ Below w.heap.size w w' := by
  refine (concat31 (w.heap.size + 1) w.heap.size _ (by simp) (by simp; omega) ?_ ?_ ?_).mono ?_
  · rw [cell_of_row _ _ _ _ _ _ (heapB _ _ _)]; rfl
  · rw [cell_of_row _ _ _ _ _ _ (heapB _ _ _)]; rfl
  · intro j u hj
    rw [cell_of_row _ _ _ _ _ _ (heapA _ _ _)]
    simpa using hj
  · rintro e w1 ⟨v, rfl, hown, hb⟩
    obtain ⟨g, cap, rfl⟩ := own_form hown (by decide)
    refine ⟨g, cap, rfl, ownsRow_weaken hown (by simp; omega), ?_⟩
    exact ((((Below.refl _ _).alloc (Nat.le_refl _) _).alloc (by simp) _).drew).trans (hb.mono (by simp; omega))

/-- what is owned stays owned where only new blocks are made, and under a store into T, a block below its base -/
theorem own_kept {w w' : World} {b : Nat} {e : TypeId} {size : Nat} {v : Value} {n : Nat} {xs : List Value} (h : w.ownsRow b e size v n xs) (hb : Below w.heap.size w w') : w'.ownsRow b e size v n xs := by
  refine ⟨h.1, ?_⟩
  rcases h.2 with h0 | ⟨g, cap, cur, rfl, h2, hg, r⟩
  · exact .inl h0
  · exact .inr ⟨g, cap, cur, rfl, h2, by rw [hb.block g (Array.getElem?_eq_some_iff.1 hg).1]; exact hg, r⟩
theorem own_set {w : World} {b : Nat} {e : TypeId} {size : Nat} {v : Value} {n : Nat} {xs : List Value} (h : w.ownsRow b e size v n xs) {T : Nat} (hT : T < b) (j : Nat) (u : Value) : (w.setCell ⟨T, j, none⟩ u).ownsRow b e size v n xs :=
  ownsRow_setCell_below h (by exact hT) u

/-- THE STATE of 'grow' between two statements: the table's block T holds cs; apart from it nothing that was there has turned. -/
def St (w0 : World) (T : Nat) (cs : Array Value) (wx : World) : Prop := wx.heap[T]? = some (.cells cs 41 (0, 0)) ∧ w0.grownBy wx (some T)

theorem St.cell {w0 wx : World} {T : Nat} {cs : Array Value} (h : St w0 T cs wx) {j : Nat} {v : Value} (hj : cs[j]? = some v) : wx.cell? ⟨T, j, none⟩ = some v := by rw [cell_of_row wx T j _ _ _ h.1]; exact hj
theorem St.frozen {w0 wx : World} {T : Nat} {cs : Array Value} (h : St w0 T cs wx) (j : Nat) : wx.frozen? ⟨T, j, none⟩ = false := frozen_of_row wx T j _ _ h.1
theorem St.lt {w0 wx : World} {T : Nat} {cs : Array Value} (h : St w0 T cs wx) : T < wx.heap.size := (Array.getElem?_eq_some_iff.1 h.1).1
theorem St.old {w0 wx : World} {T : Nat} {cs : Array Value} (h : St w0 T cs wx) {k : Nat} (hk : k < w0.heap.size) (hne : k ≠ T) : wx.heap[k]? = w0.heap[k]? := h.2.block k hk (by simpa using hne)
theorem St.step {w0 wx w2 : World} {T : Nat} {cs : Array Value} (h : St w0 T cs wx) (hb : Below wx.heap.size wx w2) (j : Nat) (v : Value) : St w0 T (cs.setIfInBounds j v) (w2.setCell ⟨T, j, none⟩ v) := by
  have h2 : w2.heap[T]? = some (.cells cs 41 (0, 0)) := by rw [hb.block T h.lt]; exact h.1
  refine ⟨heap_setCell_same w2 T j cs 41 v h2, hb.os.trans h.2.os, hb.tape.trans h.2.tape, hb.output.trans h.2.output, ?_, ?_⟩
  · have := h.2.size; have := hb.size; simp; omega
  · intro k hk hne
    rw [Below.heap_setCell _ _ _ _ (by intro e; exact hne (by rw [e]))]
    rw [hb.block k (by have := h.2.size; omega)]
    exact h.2.block k hk hne

theorem St.kept {w0 wx w2 : World} {T : Nat} {cs : Array Value} (h : St w0 T cs wx) (hb : Below wx.heap.size wx w2) : St w0 T cs w2 := by
  refine ⟨by rw [hb.block T h.lt]; exact h.1, hb.os.trans h.2.os, hb.tape.trans h.2.tape, hb.output.trans h.2.output, Nat.le_trans h.2.size hb.size, ?_⟩
  intro k hk hne
  rw [hb.block k (by have := h.2.size; omega)]
  exact h.2.block k hk hne
theorem bel2 (w : World) (o o' : Obj) : Below w.heap.size w ((w.alloc o).alloc o').drew.drew := (((Below.refl _ _).alloc (Nat.le_refl _) _).alloc (by simp) _).drew.drew
theorem own33 (w : World) (N : Nat) (hN : w.heap.size = N) (o : Obj) (wall ext : Int) (cap : Nat) (h1 : 1 ≤ cap) (h2 : cap ≤ maxLen) :
    (((w.alloc o).alloc (.cells (#[.int .u64 wall, .int .i64 ext, .pointer none] ++ Builtin.zeroCells #[.int .u64 0, .int .i64 0, .pointer none] (cap - 1)) 33)).drew.drew).ownsRow N 33 3 (.slice (some ⟨N + 1, 0, none⟩) 1 cap) 1 [.int .u64 wall, .int .i64 ext, .pointer none] := by
  subst hN
  refine ⟨rfl, .inr ⟨w.heap.size + 1, cap, _, rfl, by omega, heapB w _ _, h1, h2, ?_, ?_⟩⟩
  · simp only [Array.size_append, size_zeroCells]
    simp
    omega
  · simp
theorem nil38 (w : World) : (binOp .neq 38 (.slice none 0 0) (.slice none 0 0)).run Yba.prog w = .ok (.bool false) w := by kernel_rfl

set_option maxHeartbeats 4000000 in
set_option maxRecDepth 100000 in
theorem grow23 (T : Nat) (cs : Array Value) (wall ext : Int) (w : World) (hT : w.heap[T]? = some (.cells cs 41 (0, 0))) (hs : cs.size = 29) (c22 : cs[22]? = some (.int .i64 1)) (c23 : cs[23]? = some (.slice none 0 0)) (c24 : cs[24]? = some (.slice none 0 0)) (c25 : cs[25]? = some (.slice none 0 0)) (c26 : cs[26]? = some (.slice none 0 0)) (c27 : cs[27]? = some (.slice none 0 0)) :
    Calls Yba.prog 23 #[.pointer (some ⟨T, 0, none⟩), .agg #[.int .u64 wall, .int .i64 ext, .pointer none]] w fun e w' => e = .returned (.tuple #[]) ∧
      ∃ vs vf vl vn, w'.heap[T]? = some (.cells ((((cs.setIfInBounds 23 vs).setIfInBounds 26 vf).setIfInBounds 27 vl).setIfInBounds 24 vn) 41 (0, 0)) ∧
        w'.ownsRow w.heap.size 45 22 vs 2 (z45 ++ z45) ∧ w'.ownsRow w.heap.size 21 1 vf 1 [.int .i32 0] ∧ w'.ownsRow w.heap.size 33 3 vl 1 [.int .u64 wall, .int .i64 ext, .pointer none] ∧ w'.ownsRow w.heap.size 21 1 vn 2 [.int .i32 0, .int .i32 0] ∧ w.grownBy w' (some T) := by
  have hTl : T < w.heap.size := (Array.getElem?_eq_some_iff.1 hT).1
  have hst : St (w.alloc (.cells #[.int .u64 wall, .int .i64 ext, .pointer none] 33)) T cs (w.alloc (.cells #[.int .u64 wall, .int .i64 ext, .pointer none] 33)) :=
    ⟨by rw [Below.heap_alloc _ _ _ hTl]; exact hT, rfl, rfl, rfl, Nat.le_refl _, fun _ _ _ => rfl⟩
  have hz : (w.alloc (.cells #[.int .u64 wall, .int .i64 ext, .pointer none] 33)).heap.size = w.heap.size + 1 := by simp
  have hbox : (w.alloc (.cells #[.int .u64 wall, .int .i64 ext, .pointer none] 33)).heap[w.heap.size]? = some (.cells #[.int .u64 wall, .int .i64 ext, .pointer none] 33 (0, 0)) := heap_alloc_new _ _
  have hgr : w.grownBy (w.alloc (.cells #[.int .u64 wall, .int .i64 ext, .pointer none] 33)) (some T) := World.grownBy_alloc _ _ _
  have mk36 := make36
  have mk37 := make37
  have nn := nil38
  have hw2 : IntKind.i64.wrap 2 = 2 := by decide
  go_enter Yba.func23, Yba.ntmps23
  go_upto_region 1 with fail
  generalize (w.alloc (.cells #[.int .u64 wall, .int .i64 ext, .pointer none] 33)) = w0 at hst hz hbox hgr ⊢
  have hP := concatA w0
  have e22 := hst.cell c22
  have e23 := hst.cell c23
  have f23 := hst.frozen 23
  have h0l := hst.lt
  have Hz : Hid (w0.heap.size = w.heap.size + 1) := hz
  have Hbox : Hid (w0.heap[w.heap.size]? = some (.cells #[.int .u64 wall, .int .i64 ext, .pointer none] 33 (0, 0))) := hbox
  clear hT c23 hz hbox
  go_cut [] (fun wx => ∃ vs, St w0 T (cs.setIfInBounds 23 vs) wx ∧ wx.ownsRow w0.heap.size 45 22 vs 2 (z45 ++ z45))
  case first =>
    go_region_with (go_at_call 30; refine hP.mono ?_; rintro e w1 ⟨g, cap, rfl, hown1, hb1⟩; have g23 : w1.frozen? ⟨T, 23, none⟩ = false := (hb1.frozen (p := ⟨T, 23, none⟩) h0l).trans f23; have t23 : w1.cell? ⟨T, 23, none⟩ = some (.slice none 0 0) := (hb1.cell (p := ⟨T, 23, none⟩) h0l).trans e23)
    all_goals (go_wp2_with fail; go_meet; exact ⟨_, hst.step hb1 _ _, own_set hown1 h0l _ _⟩)
  case rest =>
    obtain ⟨vs, hst1, hown1⟩ := hcut
    clear e22 e23 f23 hP
    have hP := concatB wc
    have e22 := hst1.cell (j := 22) (v := .int .i64 1) (by simpa using c22)
    have e26 := hst1.cell (j := 26) (v := .slice none 0 0) (by simpa using c26)
    have f26 := hst1.frozen 26
    have h1l := hst1.lt
    go_upto_region 2 with fail
    go_cut [] (fun wx => ∃ vf, St w0 T ((cs.setIfInBounds 23 vs).setIfInBounds 26 vf) wx ∧ wx.ownsRow w0.heap.size 45 22 vs 2 (z45 ++ z45) ∧ wx.ownsRow w0.heap.size 21 1 vf 1 [.int .i32 0])
    case first =>
      go_region_with (go_at_call 31; refine hP.mono ?_; rintro e w2 ⟨g, cap, rfl, hown2, hb2⟩; have g26 : w2.frozen? ⟨T, 26, none⟩ = false := (hb2.frozen (p := ⟨T, 26, none⟩) h1l).trans f26; have t26 : w2.cell? ⟨T, 26, none⟩ = some (.slice none 0 0) := (hb2.cell (p := ⟨T, 26, none⟩) h1l).trans e26)
      all_goals (go_wp2_with fail; go_meet; exact ⟨_, hst1.step hb2 _ _, own_set (own_kept hown1 hb2) h0l _ _, own_set (ownsRow_weaken hown2 hst1.2.size) h0l _ _⟩)
    case rest =>
      obtain ⟨vf, hst2, hownA, hownB⟩ := hcut
      clear e22 e26 f26 hP h1l hst1 hown1
      have e25 := hst2.cell (j := 25) (v := .slice none 0 0) (by simpa using c25)
      have e27 := hst2.cell (j := 27) (v := .slice none 0 0) (by simpa using c27)
      have f27 := hst2.frozen 27
      have hbx : wc.heap[w.heap.size]? = some (.cells #[.int .u64 wall, .int .i64 ext, .pointer none] 33 (0, 0)) := by
        rw [hst2.old (by rw [Hz.out]; omega) (by omega)]; exact Hbox.out
      have b0 : wc.cell? ⟨w.heap.size, 0, none⟩ = some (.int .u64 wall) := by rw [cell_of_row wc _ 0 _ _ _ hbx]; rfl
      have b1 : wc.cell? ⟨w.heap.size, 1, none⟩ = some (.int .i64 ext) := by rw [cell_of_row wc _ 1 _ _ _ hbx]; rfl
      have b2 : wc.cell? ⟨w.heap.size, 2, none⟩ = some (.pointer none) := by rw [cell_of_row wc _ 2 _ _ _ hbx]; rfl
      clear hbx
      have hcap : ¬ 281474976710656 < Builtin.nextslicecap 1 0 * Yba.t33.bytes := by decide
      have h2l := hst2.lt
      have hwl : w.heap.size < wc.heap.size := by have := hst2.2.size; rw [Hz.out] at this; omega
      go_upto_region 5 with fail
      go_cut [] (fun wx => ∃ vl, St w0 T (((cs.setIfInBounds 23 vs).setIfInBounds 26 vf).setIfInBounds 27 vl) wx ∧ wx.ownsRow w0.heap.size 45 22 vs 2 (z45 ++ z45) ∧ wx.ownsRow w0.heap.size 21 1 vf 1 [.int .i32 0] ∧ wx.ownsRow w0.heap.size 33 3 vl 1 [.int .u64 wall, .int .i64 ext, .pointer none])
      case first =>
        go_region
        go_wp2_with fail
        go_meet
        case rel =>
          refine ⟨_, (hst2.step (Below.refl _ _) 27 _).kept (bel2 _ _ _), own_kept (own_set hownA h0l _ _) (bel2 _ _ _), own_kept (own_set hownB h0l _ _) (bel2 _ _ _), ownsRow_weaken (own33 _ wc.heap.size (by simp) _ wall ext _ ?_ ?_) hst2.2.size⟩
          · exact grownCap_ge wc.drew 1 0 33
          · exact grownCap_le_maxLen wc.drew 1 0 33 (by unfold maxLen; decide)
      case rest =>
        obtain ⟨vl, hst3, hownC, hownD, hownE⟩ := hcut
        clear e25 e27 f27 b0 b1 b2 h2l hwl hst2 hownA hownB hcap
        have e24 := hst3.cell (j := 24) (v := .slice none 0 0) (by simpa using c24)
        have f24 := hst3.frozen 24
        have h3l := hst3.lt
        obtain ⟨i0, hi, hz0, hz1, hz2⟩ := info_parts Yba.info21
        go_wp2_with (at_builtin; refine wpList_append_own _ rfl _ _ 37 rfl wc.heap.size 21 i0 (.int .i32 0) 1 4 Yba.underlying37 hi hz0 hz1 hz2 rfl (by decide) _ 0 [] rfl (World.ownsRow_nil _ _ _ _) _ 2 2 [.int .i32 0, .int .i32 0] rfl rfl ?d1 ?d2 ?d3 ?d4 ?d5 ?_)
        case d1 =>
          intro j u hj
          match j, hj with
          | 0, hj => simp at hj; subst hj; simp [Addr.add]
          | 1, hj => simp at hj; subst hj; simp [Addr.add]
        case d2 => intro u hu; simp at hu; subst hu; rfl
        case d3 => unfold maxLen; omega
        case d4 => omega
        case d5 => simp
        intro v' w4 hown4 hg4 _
        obtain ⟨g, cap, hv⟩ := own_form hown4 (by decide)
        have hb4 : Below wc.heap.size wc w4 := ((Below.refl _ _).alloc (Nat.le_refl _) _).grown hg4 (by simp) (fun k hk => by simp [Value.ownBlock] at hk)
        rw [hv] at hown4 ⊢
        have t24 : w4.cell? ⟨T, 24, none⟩ = some (.slice none 0 0) := (hb4.cell (p := ⟨T, 24, none⟩) h3l).trans e24
        have g24 : w4.frozen? ⟨T, 24, none⟩ = false := (hb4.frozen (p := ⟨T, 24, none⟩) h3l).trans f24
        clear e24 f24
        go_wp2
        go_end0
        have hst4 := hst3.step hb4 24 (.slice (some ⟨g, 0, none⟩) 2 cap)
        have hw0 : w.heap.size ≤ w0.heap.size := by rw [Hz.out]; omega
        refine ⟨rfl, vs, vf, vl, _, hst4.1, ownsRow_weaken (own_set (own_kept hownC hb4) h0l _ _) hw0, ownsRow_weaken (own_set (own_kept hownD hb4) h0l _ _) hw0, ownsRow_weaken (own_set (own_kept hownE hb4) h0l _ _) hw0, ownsRow_weaken (own_set (ownsRow_weaken hown4 hst3.2.size) h0l _ _) hw0, ?_⟩
        exact ⟨hst4.2.os.trans hgr.os, hst4.2.tape.trans hgr.tape, hst4.2.output.trans hgr.output, Nat.le_trans hgr.size hst4.2.size, fun k hk hne => (hst4.2.block k (Nat.lt_of_lt_of_le hk hgr.size) hne).trans (hgr.block k hk hne)⟩
end Go.Proofs.Ybulkagzs
