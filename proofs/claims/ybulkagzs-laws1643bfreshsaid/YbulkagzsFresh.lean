import Derived.Test.YbulkagzsEq
import Derived.Test.YbulkagzsEqual
import Derived.Test.YbulkagzsApart
namespace Go.Proofs.Ybulkagzs
open Go.RowKit
set_option linter.unusedVariables false

theorem range_tab {w : World} {T : Nat} {l : List Value} {k sa vs vn vf vl : Value} (h : w.heap[T]? = some (.cells (tab l.toArray k sa vs vn vf vl) 41 (0, 0))) : w.rangeAt T 0 l := by
  intro j v hv
  rw [Nat.zero_add, cell_of_row w T j _ _ _ h]
  have hj : j < l.length := (List.getElem?_eq_some_iff.1 hv).1
  simp only [tab]
  rw [Array.getElem?_append_left (by simpa using hj)]
  simpa using hv
theorem range_box {w : World} {T : Nat} {l : List Value} (h : w.heap[T]? = some (.cells l.toArray 22 (0, 0))) : w.rangeAt T 0 l := by
  intro j v hv
  rw [Nat.zero_add, cell_of_row w T j _ _ _ h]
  simpa using hv
theorem range_slots {w : World} {g : Nat} (h : ∀ j, j < 2 * 22 → w.cell? ⟨g, j, none⟩ = (z45 ++ z45)[j]?) : w.rangeAt g 0 z45 ∧ w.rangeAt g 22 z45 := by
  constructor
  · intro j v hv
    have hj : j < z45.length := (List.getElem?_eq_some_iff.1 hv).1
    have : z45.length = 22 := rfl
    rw [Nat.zero_add, h j (by omega), List.getElem?_append_left hj]
    exact hv
  · intro j v hv
    have hj : j < z45.length := (List.getElem?_eq_some_iff.1 hv).1
    have h22 : z45.length = 22 := rfl
    rw [h (22 + j) (by omega), List.getElem?_append_right (by omega), h22, Nat.add_sub_cancel_left]
    exact hv

theorem keep1 {w w' : World} (h : Below w.heap.size w w') {a : Addr} {v : Value} (hc : w.cell? a = some v) : w'.cell? a = some v := (h.cell (World.block_lt_of_cell? w a hc)).trans hc
theorem keep7 {w w' : World} (h : Below w.drew.heap.size w.drew w') {a b c d e f g : Addr} {va vb vc vd ve vf vg : Value} (h1 : w.cell? a = some va) (h2 : w.cell? b = some vb) (h3 : w.cell? c = some vc) (h4 : w.cell? d = some vd) (h5 : w.cell? e = some ve) (h6 : w.cell? f = some vf) (h7 : w.cell? g = some vg) :
    w'.cell? a = some va ∧ w'.cell? b = some vb ∧ w'.cell? c = some vc ∧ w'.cell? d = some vd ∧ w'.cell? e = some ve ∧ w'.cell? f = some vf ∧ w'.cell? g = some vg :=
  ⟨keep1 h h1, keep1 h h2, keep1 h h3, keep1 h h4, keep1 h h5, keep1 h h6, keep1 h h7⟩

set_option maxHeartbeats 4000000 in
set_option maxRecDepth 100000 in
theorem walkFresh (l : List Value) (hl : l.length = 20) (hint : ∀ i, i < 20 → ∃ n : Int, l.toArray[i]? = some (.int .u8 n)) (hone : l.toArray.all (·.oneCell') = true) (k sa d : Int) (hd1 : -9223372036854775808 ≤ d) (hd2 : d ≤ 9223372036854775807) (w : World) :
    Calls Yba.prog 5 #[.agg l.toArray, .int .i64 k, .int .i64 sa, .int .i64 d] w fun e w' => e = .returned (.bool true) ∧ Below w.heap.size w w' := by
  have hbs : l.toArray.size = 20 := by simpa using hl
  go_enter Yba.func5, Yba.ntmps5
  go_wp2_with fail
  refine (add_any d hd1 hd2 _).mono ?_
  rintro e w1 ⟨wall, ext, rfl, hw0, hw1, hb1⟩
  have z1 : w.heap.size < w1.heap.size := by have := hb1.size; simp at this; omega
  have hS : (w1.alloc (.cells #[.int .u64 wall, .int .i64 ext, .pointer none] 33)).heap[w.heap.size]? = some (.cells l.toArray 22 (0, 0)) := by
    rw [Below.heap_alloc _ _ _ z1, hb1.block _ (by simp)]; exact heap_alloc_new _ _
  go_wp2_with (refine wpList_load_row rfl 22 (.tmp 4) rfl w.heap.size rfl 22 l.toArray (0, 0) _ hS Yba.underlying22 rfl (by rw [hbs]; exact Yba.size22) ?_)
  have hB1 : Below w.heap.size w (w1.alloc (.cells #[.int .u64 wall, .int .i64 ext, .pointer none] 33)) :=
    (((Below.refl _ _).alloc (Nat.le_refl _) _).trans (hb1.mono (by simp))).alloc (by omega) _
  refine (newTab l.toArray hbs hone k sa wall ext _).mono ?_
  rintro e w2 ⟨vs, vf, vl, vn, rfl, o1, o2, o3, o4, hb2⟩
  have hA1 := tab_one l.toArray hone (.int .i64 k) (.int .i64 sa) vs vn vf vl rfl rfl (one_own o1) (one_own o4) (one_own o2) (one_own o3)
  go_upto_region 3 with (refine wpList_store_row rfl 41 (.tmp 10) (.tmp 18) rfl w2.heap.size (tab l.toArray (.int .i64 k) (.int .i64 sa) vs vn vf vl) rfl rfl 41 z41 (heap_alloc_new _ _) (by rw [tab_size _ hbs]; exact Yba.size41) (by rw [tab_size _ hbs]; rfl) hA1 ?_; rw [World.setRow_alloc_new])
  have z2 : w1.heap.size < w2.heap.size := by have := hb2.size; simp at this; omega
  have hB2 := hB1.trans (hb2.mono (by simp; omega))
  have hF : Below w2.heap.size w2 (w2.alloc (.cells (tab l.toArray (.int .i64 k) (.int .i64 sa) vs vn vf vl) 41)) := (Below.refl _ _).alloc (Nat.le_refl _) _
  have hFT : (w2.alloc (.cells (tab l.toArray (.int .i64 k) (.int .i64 sa) vs vn vf vl) 41)).heap[w2.heap.size]? = some (.cells (tab l.toArray (.int .i64 k) (.int .i64 sa) vs vn vf vl) 41 (0, 0)) := heap_alloc_new _ _
  have hFS : (w2.alloc (.cells (tab l.toArray (.int .i64 k) (.int .i64 sa) vs vn vf vl) 41)).heap[w.heap.size]? = some (.cells l.toArray 22 (0, 0)) := by
    rw [Below.heap_alloc _ _ _ (by omega), hb2.block _ (by simp; omega)]; exact hS
  have hFN : (w2.alloc (.cells (tab l.toArray (.int .i64 k) (.int .i64 sa) vs vn vf vl) 41)).heap[w1.heap.size]? = some (.cells #[.int .u64 wall, .int .i64 ext, .pointer none] 33 (0, 0)) := by
    rw [Below.heap_alloc _ _ _ (by omega), hb2.block _ (by simp)]; exact heap_alloc_new _ _
  have hBF : Below w.heap.size w (w2.alloc (.cells (tab l.toArray (.int .i64 k) (.int .i64 sa) vs vn vf vl) 41)) := hB2.alloc (by omega) _
  obtain ⟨g, cg, e1, _, g2, g3, _⟩ := own_cells o1 (by decide)
  obtain ⟨f, cf, e2, _, f2, f3, _⟩ := own_cells o2 (by decide)
  obtain ⟨q, cq, e3, _, q2, q3, _⟩ := own_cells o3 (by decide)
  obtain ⟨m, cm, e4, _, m2, m3, _⟩ := own_cells o4 (by decide)
  obtain ⟨p0, p1, p2, p3, p4, p5, p6, p7, p8⟩ := tab_get l.toArray hbs (.int .i64 k) (.int .i64 sa) vs vn vf vl
  have t20 := (cell_of_row _ _ 20 _ _ _ hFT).trans p0
  have t21 := (cell_of_row _ _ 21 _ _ _ hFT).trans p1
  have t22 := (cell_of_row _ _ 22 _ _ _ hFT).trans p2
  have t23 := (cell_of_row _ _ 23 _ _ _ hFT).trans p3
  have t24 := (cell_of_row _ _ 24 _ _ _ hFT).trans p4
  have t25 := (cell_of_row _ _ 25 _ _ _ hFT).trans p5
  have t26 := (cell_of_row _ _ 26 _ _ _ hFT).trans p6
  have t27 := (cell_of_row _ _ 27 _ _ _ hFT).trans p7
  have t28 := (cell_of_row _ _ 28 _ _ _ hFT).trans p8
  have rT := range_tab hFT
  have rS := range_box hFS
  have rG := range_slots (w := w2.alloc (.cells (tab l.toArray (.int .i64 k) (.int .i64 sa) vs vn vf vl) 41)) (fun j hj => (hF.cell (p := ⟨g, j, none⟩) g2).trans (g3 j hj))
  have s1 := (hF.cell (p := ⟨m, 0, none⟩) m2).trans (m3 0 (by decide))
  have s2 := (hF.cell (p := ⟨m, 1, none⟩) m2).trans (m3 1 (by decide))
  have s3 := (hF.cell (p := ⟨f, 0, none⟩) f2).trans (f3 0 (by decide))
  have s4 := (hF.cell (p := ⟨q, 0, none⟩) q2).trans (q3 0 (by decide))
  have s5 := (hF.cell (p := ⟨q, 1, none⟩) q2).trans (q3 1 (by decide))
  have s6 := (hF.cell (p := ⟨q, 2, none⟩) q2).trans (q3 2 (by decide))
  have n0 := cell_of_row _ _ 0 _ _ _ hFN
  have n1 := cell_of_row _ _ 1 _ _ _ hFN
  have n2 := cell_of_row _ _ 2 _ _ _ hFN
  generalize (w2.alloc (.cells (tab l.toArray (.int .i64 k) (.int .i64 sa) vs vn vf vl) 41)) = wF at t20 t21 t22 t23 t24 t25 t26 t27 t28 rT rS rG s1 s2 s3 s4 s5 s6 n0 n1 n2 hBF ⊢
  rw [e1] at t23
  rw [e4] at t24
  rw [e2] at t26
  rw [e3] at t27
  have s1' : wF.cell? ⟨m, 0, none⟩ = some (.int .i32 0) := s1
  have s2' : wF.cell? ⟨m, 1, none⟩ = some (.int .i32 0) := s2
  have s3' : wF.cell? ⟨f, 0, none⟩ = some (.int .i32 0) := s3
  have s4' : wF.cell? ⟨q, 0, none⟩ = some (.int .u64 wall) := s4
  have s5' : wF.cell? ⟨q, 1, none⟩ = some (.int .i64 ext) := s5
  have s6' : wF.cell? ⟨q, 2, none⟩ = some (.pointer none) := s6
  have n0' : wF.cell? ⟨w1.heap.size, 0, none⟩ = some (.int .u64 wall) := n0
  have n1' : wF.cell? ⟨w1.heap.size, 1, none⟩ = some (.int .i64 ext) := n1
  have n2' : wF.cell? ⟨w1.heap.size, 2, none⟩ = some (.pointer none) := n2
  have HB : Hid (Below w.heap.size w wF) := hBF
  have RT : Hid (wF.rangeAt w2.heap.size 0 l) := rT
  have RS : Hid (wF.rangeAt w.heap.size 0 l) := rS
  have RG : Hid (wF.rangeAt g 0 z45 ∧ wF.rangeAt g 22 z45) := rG
  clear s1 s2 s3 s4 s5 s6 n0 n1 n2 hBF rT rS rG p0 p1 p2 p3 p4 p5 p6 p7 p8 o1 o2 o3 o4 g2 g3 f2 f3 q2 q3 m2 m3 hF hFT hFS hFN hB1 hB2 hb1 hb2 hS hA1 e1 e2 e3 e4 hd1 hd2 z1 z2
  generalize w2.heap.size = T at *
  have HI : Hid (∀ i, i < 20 → ∃ n : Int, l.toArray[i]? = some (.int .u8 n)) := hint
  have HL : Hid (l.length = 20) := hl
  have K3 : Hid (wF.cell? ⟨T, 20, none⟩ = some (.int .i64 k) ∧ wF.cell? ⟨T, 21, none⟩ = some (.int .i64 sa)) := ⟨t20, t21⟩
  have K5 : Hid (wF.cell? ⟨T, 22, none⟩ = some (.int .i64 1) ∧ wF.cell? ⟨T, 28, none⟩ = some (.int .u64 0) ∧ wF.cell? ⟨T, 25, none⟩ = some (.slice none 0 0)) := ⟨t22, t28, t25⟩
  have K7 : Hid (wF.cell? ⟨T, 23, none⟩ = some (.slice (some ⟨g, 0, none⟩) 2 cg)) := t23
  have K9 : Hid (wF.cell? ⟨T, 24, none⟩ = some (.slice (some ⟨m, 0, none⟩) 2 cm) ∧ wF.cell? ⟨m, 0, none⟩ = some (.int .i32 0) ∧ wF.cell? ⟨m, 1, none⟩ = some (.int .i32 0)) := ⟨t24, s1', s2'⟩
  have K11 : Hid (wF.cell? ⟨T, 26, none⟩ = some (.slice (some ⟨f, 0, none⟩) 1 cf) ∧ wF.cell? ⟨f, 0, none⟩ = some (.int .i32 0)) := ⟨t26, s3'⟩
  have K13 : Hid (wF.cell? ⟨T, 27, none⟩ = some (.slice (some ⟨q, 0, none⟩) 1 cq) ∧ wF.cell? ⟨q, 0, none⟩ = some (.int .u64 wall) ∧ wF.cell? ⟨q, 1, none⟩ = some (.int .i64 ext) ∧ wF.cell? ⟨q, 2, none⟩ = some (.pointer none) ∧
    wF.cell? ⟨w1.heap.size, 0, none⟩ = some (.int .u64 wall) ∧ wF.cell? ⟨w1.heap.size, 1, none⟩ = some (.int .i64 ext) ∧ wF.cell? ⟨w1.heap.size, 2, none⟩ = some (.pointer none)) := ⟨t27, s4', s5', s6', n0', n1', n2'⟩
  have hW0 : Hid (0 ≤ wall ∧ wall ≤ 999999999) := ⟨hw0, hw1⟩
  clear hint hl hone hbs t20 t21 t22 t23 t24 t25 t26 t27 t28 s1' s2' s3' s4' s5' s6' n0' n1' n2' hw0 hw1
  obtain ⟨t20, t21⟩ := K3.out
  go_upto_region 5 with (first | (refine wpList_load_mid_g 24 (.tmp 19) rfl rfl T 0 rfl l _ RT.out Yba.underlying24 rfl (by rw [HL.out]; exact Yba.size24) ?_) | (refine wpList_load_mid_g 22 (.tmp 4) rfl rfl w.heap.size 0 rfl l _ RS.out Yba.underlying22 rfl (by rw [HL.out]; exact Yba.size22) ?_) | (refine wpList_neq_agg_g 24 24 (.tmp 20) (.tmp 21) rfl rfl l.toArray l.toArray rfl rfl guard24 false (neq24 _ HI.out _) ?_))
  clear t20 t21
  obtain ⟨t22, t28, t25⟩ := K5.out
  go_upto_region 7 with fail
  clear t22 t28 t25
  have t23 := K7.out
  go_upto_region 9 with (first | (refine wpList_load_mid_g 45 (.tmp 55) rfl rfl g 0 rfl z45 _ RG.out.1 Yba.underlying45 rfl Yba.size45 ?_) | (refine wpList_load_mid_g 45 (.tmp 63) rfl rfl g 22 rfl z45 _ RG.out.2 Yba.underlying45 rfl Yba.size45 ?_) | (refine wpList_neq_agg_g 45 45 (.tmp 56) (.tmp 57) rfl rfl z45.toArray z45.toArray rfl rfl guard45 false (neq45 _) ?_) | (refine wpList_neq_agg_g 45 45 (.tmp 64) (.tmp 65) rfl rfl z45.toArray z45.toArray rfl rfl guard45 false (neq45 _) ?_))
  clear t23
  obtain ⟨t24, s1, s2⟩ := K9.out
  go_upto_region 11 with fail
  clear t24 s1 s2
  obtain ⟨t26, s3⟩ := K11.out
  go_upto_region 13 with fail
  clear t26 s3
  obtain ⟨t27, s4, s5, s6, n0, n1, n2⟩ := K13.out
  obtain ⟨hw0, hw1⟩ := hW0.out
  clear K3 K5 K7 K9 K11 RT RS RG HI HL
  have hpp : ∀ wx : World, (Op.equalIn 9999 31 (.pointer none) (.pointer none)).run Yba.prog wx = .ok true wx := fun _ => by kernel_rfl
  go_region_held3 (fun wx => wx.cell? ⟨T, 27, none⟩ = some (.slice (some ⟨q, 0, none⟩) 1 cq) ∧ wx.cell? ⟨q, 0, none⟩ = some (.int .u64 wall) ∧ wx.cell? ⟨q, 1, none⟩ = some (.int .i64 ext) ∧ wx.cell? ⟨q, 2, none⟩ = some (.pointer none) ∧ wx.cell? ⟨w1.heap.size, 0, none⟩ = some (.int .u64 wall) ∧ wx.cell? ⟨w1.heap.size, 1, none⟩ = some (.int .i64 ext) ∧ wx.cell? ⟨w1.heap.size, 2, none⟩ = some (.pointer none)) (go_keep) (first | (go_at_call 12; refine (equal_any wall ext hw0 hw1 _).mono ?_; rintro e w5 ⟨rfl, hb5⟩; obtain ⟨y1, y2, y3, y4, y5, y6, y7⟩ := keep7 hb5 t27 s4 s5 s6 n0 n1 n2))
  clear t27 s4 s5 s6 n0 n1 n2 y1 y2 y3 y4 y5 y6 y7 hpp K13
  go_wp2
  go_ret
  exact ⟨rfl, (HB.out.drew).trans (hb5.mono HB.out.size)⟩
end Go.Proofs.Ybulkagzs
