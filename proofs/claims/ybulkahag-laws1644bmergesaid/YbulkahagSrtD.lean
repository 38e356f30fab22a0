import Derived.Test.YbulkahagSrtC
import Derived.Test.YbulkahagShelf
namespace Go.Proofs.Ybulkahag
open Go.RowKit Go.Shelf
set_option linter.unusedVariables false

theorem xor_range (a b : Int) (h1 : 0 ≤ a) (h2 : a < 18446744073709551616) (h3 : 0 ≤ b) (h4 : b < 18446744073709551616) : 0 ≤ bits .xor .u64 a b ∧ bits .xor .u64 a b < 18446744073709551616 := by
  rw [u64_xor a b h1 h2 h3 h4]
  have := @Nat.xor_lt_two_pow a.toNat b.toNat 64 (by omega) (by omega)
  omega
theorem wrap_range (a : Int) : 0 ≤ IntKind.u64.wrap a ∧ IntKind.u64.wrap a < 18446744073709551616 := by
  rw [IntKind.wrap_u64]; omega

theorem cell_put {W : World} {q : Nat} {v u : Value} (h : W.cell? ⟨q, 0, none⟩ = some v) : (W.setCell ⟨q, 0, none⟩ u).drew.cell? ⟨q, 0, none⟩ = some u := by
  have := World.cell?_setCell_same W ⟨q, 0, none⟩ u h
  simpa using this

set_option maxHeartbeats 2000000 in
theorem next_any (q : Nat) (x : Int) (h0 : 0 ≤ x) (h1 : x < 18446744073709551616) (W : World) (hc : W.cell? ⟨q, 0, none⟩ = some (.int .u64 x)) (hf : W.frozen? ⟨q, 0, none⟩ = false) :
    Calls Yba.prog 32 #[.pointer (some ⟨q, 0, none⟩)] W fun e w' => ∃ y : Int, 0 ≤ y ∧ y < 18446744073709551616 ∧ e = .returned (.int .u64 y) ∧ w'.cell? ⟨q, 0, none⟩ = some (.int .u64 y) ∧ w'.frozen? ⟨q, 0, none⟩ = false ∧ Fr q W w' := by
  go_enter Yba.func32, Yba.ntmps32
  go_wp2
  go_region
  go_wp2
  have r1 := xor_range x _ h0 h1 (wrap_range (x * 8192)).1 (wrap_range (x * 8192)).2
  generalize bits .xor .u64 x (IntKind.u64.wrap (x * 8192)) = y at *
  have hA : Fr q W (W.setCell ⟨q, 0, none⟩ (.int .u64 y)).drew := (fr_set W q 0 _).drewN 1
  have hcA : (W.setCell ⟨q, 0, none⟩ (.int .u64 y)).drew.cell? ⟨q, 0, none⟩ = some (.int .u64 y) := cell_put hc
  have hfA : (W.setCell ⟨q, 0, none⟩ (.int .u64 y)).drew.frozen? ⟨q, 0, none⟩ = false := by simpa using hf
  clear hc hf
  generalize (W.setCell ⟨q, 0, none⟩ (.int .u64 y)).drew = WA at *
  have HA : Hid (Fr q W WA) := hA
  clear hA
  go_region
  go_wp2
  have r2 := xor_range y (y / 128) r1.1 r1.2 (by omega) (by omega)
  generalize bits .xor .u64 y (y / 128) = z at *
  have hB : Fr q WA (WA.setCell ⟨q, 0, none⟩ (.int .u64 z)).drew := (fr_set WA q 0 _).drewN 1
  have hcB : (WA.setCell ⟨q, 0, none⟩ (.int .u64 z)).drew.cell? ⟨q, 0, none⟩ = some (.int .u64 z) := cell_put hcA
  have hfB : (WA.setCell ⟨q, 0, none⟩ (.int .u64 z)).drew.frozen? ⟨q, 0, none⟩ = false := by simpa using hfA
  clear hcA hfA
  generalize (WA.setCell ⟨q, 0, none⟩ (.int .u64 z)).drew = WB at *
  have HB : Hid (Fr q WA WB) := hB
  clear hB
  go_region
  go_wp2
  have r3 := xor_range z _ r2.1 r2.2 (wrap_range (z * 131072)).1 (wrap_range (z * 131072)).2
  generalize bits .xor .u64 z (IntKind.u64.wrap (z * 131072)) = t at *
  have hC : Fr q WB (WB.setCell ⟨q, 0, none⟩ (.int .u64 t)).drew := (fr_set WB q 0 _).drewN 1
  have hcC : (WB.setCell ⟨q, 0, none⟩ (.int .u64 t)).drew.cell? ⟨q, 0, none⟩ = some (.int .u64 t) := cell_put hcB
  have hfC : (WB.setCell ⟨q, 0, none⟩ (.int .u64 t)).drew.frozen? ⟨q, 0, none⟩ = false := by simpa using hfB
  clear hcB hfB
  go_ret
  exact ⟨t, r3.1, r3.2, rfl, hcC, hfC, (HA.out.trans HB.out).trans hC⟩

theorem bitLen_small : ∀ n : Fin 65, Lib.bitLen n.val ≤ 7 ∧ (1 ≤ n.val → 2 ^ Lib.bitLen n.val ≤ 2 * n.val) := by decide +kernel

theorem pow_any (n : Nat) (hn : n ≤ 64) (h1 : 1 ≤ n) (W : World) :
    Calls Yba.prog 31 #[.int .i64 n] W fun e w' => ∃ M : Nat, e = .returned (.int .u64 M) ∧ 1 ≤ M ∧ M ≤ 2 * n ∧ w' = W := by
  have hb := fun w => Any.bits_Len Yba.lays125 (n : Int) w (by omega) (by omega)
  change ∀ w, Calls Yba.prog 15 _ w _ at hb
  obtain ⟨s1, s2⟩ := bitLen_small ⟨n, by omega⟩
  simp only at s1 s2
  have s3 := s2 h1
  have s4 : 1 ≤ 2 ^ Lib.bitLen n := Nat.one_le_two_pow
  go_enter Yba.func31, Yba.ntmps31
  go_wp2_with (go_at_call 15; refine (hb _).mono ?_; rintro e w1 ⟨rfl, rfl⟩)
  go_ret
  refine ⟨2 ^ Lib.bitLen n, ?_, s4, s3, rfl⟩
  have e2 : ((2 : Int) ^ Lib.bitLen n) = ((2 ^ Lib.bitLen n : Nat) : Int) := by simp
  have e3 : IntKind.u64.wrap ((2 : Int) ^ Lib.bitLen n) = ((2 ^ Lib.bitLen n : Nat) : Int) := by
    rw [IntKind.wrap_u64, e2]
    omega
  show Ending.returned (.int .u64 (IntKind.u64.wrap ((2 : Int) ^ Lib.bitLen n))) = _
  rw [e3]

theorem and_range (y : Int) (M n : Nat) (h0 : 0 ≤ y) (h1 : y < 18446744073709551616) (hM : 1 ≤ M) (hM2 : M ≤ 2 * n) (hn : n ≤ 64) : ∃ v : Nat, bits .and .u64 y ((M : Int) - 1) = v ∧ v < 2 * n := by
  rw [u64_and y _ h0 h1 (by omega) (by omega)]
  refine ⟨_, rfl, ?_⟩
  have := @Nat.and_le_right y.toNat ((M : Int) - 1).toNat
  omega

theorem Fr.other {blk q : Nat} {A B C : World} (h : Fr blk A B) (k : Fr q B C) (hq : A.heap.size ≤ q) : Fr blk A C :=
  ⟨k.os.trans h.os, k.tape.trans h.tape, k.output.trans h.output, Nat.le_trans h.size k.size, fun j hj hne => (k.block j (Nat.lt_of_lt_of_le hj h.size) (by omega)).trans (h.block j hj hne)⟩
theorem Row.other {blk q : Nat} {A B : World} {d : Array Kp} (h : Row blk A d) (k : Fr q A B) (hne : blk ≠ q) : Row blk B d := (k.block blk h.lt hne).trans h

theorem brk_step {blk n a b i j : Nat} {d dk : Array Kp} {w : World} (hp : Sort.PermIn a b d dk) (hs : dk.size = n) (hab : a + 8 ≤ b) (hb : b ≤ n) (h1 : a ≤ i) (h2 : i < b) (h3 : a ≤ j) (h4 : j < b) (hr : Row blk w (Sort.swp dk i j)) : ∃ dn : Array Kp, dn.size = n ∧ Sort.PermIn a b d dn ∧ Row blk w dn :=
  ⟨_, (swp_size _ _ _).trans hs, Sort.permIn_trans _ _ _ _ _ hp (Sort.swp_permIn dk a b i j h1 h2 h3 h4 (by omega)), hr⟩

set_option maxHeartbeats 2000000 in
set_option maxRecDepth 100000 in
theorem break_any (blk n : Nat) (d : Array Kp) (hn : d.size = n) (h64 : n ≤ 64) (a b : Nat) (hab : a + 8 ≤ b) (hb : b ≤ n) (W : World) (h : Row blk W d) :
    Calls Yba.prog 22 #[.iface 92 (rvOf blk n), .int .i64 a, .int .i64 b] W fun e w' => e = .returned (.tuple #[]) ∧ ∃ d', Sort.PermIn a b d d' ∧ Row blk w' d' ∧ Fr blk W w' := by
  have mS := findSwap blk n
  have eS := enterSwap
  have hbl := h.lt
  have H : Hid (Row blk W d) := h
  have h8 : (8 : Int) ≤ (b : Int) - (a : Int) := by omega
  have hpw := pow_any (b - a) (by omega) (by omega)
  rw [show ((b - a : Nat) : Int) = (b : Int) - (a : Int) by omega] at hpw
  clear h
  go_enter Yba.func22, Yba.ntmps22
  go_wp2_with (go_at_call 31; refine (hpw _).mono ?_; rintro e w1 ⟨M, rfl, hM, hM2, rfl⟩)
  have HR0 : Hid (Row blk (W.alloc (.cells #[.int .u64 ((b : Int) - (a : Int))] 118)) d) := H.out.alloc _
  have HF0 : Hid (Fr blk W (W.alloc (.cells #[.int .u64 ((b : Int) - (a : Int))] 118))) := (Fr.refl _ _).alloc _
  have hc0 : (W.alloc (.cells #[.int .u64 ((b : Int) - (a : Int))] 118)).cell? ⟨W.heap.size, 0, none⟩ = some (.int .u64 ((b : Int) - (a : Int))) := by simp
  have hf0 : (W.alloc (.cells #[.int .u64 ((b : Int) - (a : Int))] 118)).frozen? ⟨W.heap.size, 0, none⟩ = false := frozen_of_row _ _ _ _ _ (heap_alloc_new W _)
  have Hc0 : Hid ((W.alloc (.cells #[.int .u64 ((b : Int) - (a : Int))] 118)).cell? ⟨W.heap.size, 0, none⟩ = some (.int .u64 ((b : Int) - (a : Int))) ∧ (W.alloc (.cells #[.int .u64 ((b : Int) - (a : Int))] 118)).frozen? ⟨W.heap.size, 0, none⟩ = false) := ⟨hc0, hf0⟩
  clear hc0 hf0 hpw H
  generalize W.alloc (.cells #[.int .u64 ((b : Int) - (a : Int))] 118) = W0 at *
  have hqb : blk ≠ W.heap.size := by omega
  go_loopw [9] (fun v wr => ∃ (idx : Nat) (dk : Array Kp) (x : Int), v = .int .i64 idx ∧ a + (b - a) / 4 * 2 - 1 ≤ idx ∧ idx ≤ a + (b - a) / 4 * 2 + 2 ∧ dk.size = n ∧ Sort.PermIn a b d dk ∧ Row blk wr dk ∧ Fr blk W wr ∧ 0 ≤ x ∧ x < 18446744073709551616 ∧ wr.cell? ⟨W.heap.size, 0, none⟩ = some (.int .u64 x) ∧ wr.frozen? ⟨W.heap.size, 0, none⟩ = false) (fun v _ => 200 - (intOf v).toNat)
  case atStart => exact ⟨a + (b - a) / 4 * 2 - 1, d, _, by congr 1 <;> omega, Nat.le_refl _, by omega, hn, Sort.permIn_refl _ _ _, HR0.out, HF0.out, by omega, by omega, Hc0.out.1, Hc0.out.2⟩
  case round =>
    clear HR0 HF0 Hc0
    obtain ⟨idx, dk, x, rfl, hi1, hi2, hsk, hpm, hrow, hfr, hx0, hx1, hc, hf⟩ := hrel
    by_cases hle : idx ≤ a + (b - a) / 4 * 2 + 1
    · have hle' : (idx : Int) ≤ (a : Int) + ((b : Int) - (a : Int)) / 4 * 2 + 1 := by omega
      have hq : W.heap.size < wr.heap.size := World.block_lt_of_cell? wr _ hc
      have HN := next_any W.heap.size x hx0 hx1 wr hc hf
      have Hrow : Hid (Row blk wr dk) := hrow
      have Hfr : Hid (Fr blk W wr) := hfr
      have Hpm : Hid (Sort.PermIn a b d dk) := hpm
      clear hc hf hrow hfr hpm
      go_wp2_with (first
        | (go_at_call 32; refine HN.mono ?_; rintro e w1 ⟨y, hy0, hy1, rfl, hc1, hf1, hfq⟩; obtain ⟨v, hv, hvl⟩ := and_range y M (b - a) hy0 hy1 hM hM2 (by omega))
        | (go_at_fn 62; refine (swap_at (Hrow.out.other hfq hqb) hsk idx (a + v) rfl (by omega) (by omega) (by omega)).mono ?_; rintro e w2 ⟨rfl, hr2, hf2⟩; have HE := brk_step (Hpm.out) hsk hab hb (show a ≤ idx by omega) (by omega) (show a ≤ a + v by omega) (by omega) hr2)
        | (go_at_fn 62; refine (swap_at (Hrow.out.other hfq hqb) hsk idx (a + (v - (b - a))) rfl (by omega) (by omega) (by omega)).mono ?_; rintro e w2 ⟨rfl, hr2, hf2⟩; have HE := brk_step (Hpm.out) hsk hab hb (show a ≤ idx by omega) (by omega) (show a ≤ a + (v - (b - a)) by omega) (by omega) hr2))
      all_goals
        have HF2 : Hid (Fr blk W w2) := (Hfr.out.other hfq (Nat.le_refl _)).trans hf2
        have hq1 : W.heap.size < w1.heap.size := World.block_lt_of_cell? w1 _ hc1
        have hsame : w2.heap[W.heap.size]? = w1.heap[W.heap.size]? := hf2.block _ hq1 (Ne.symm hqb)
        have HC2 : Hid (w2.cell? ⟨W.heap.size, 0, none⟩ = some (.int .u64 y) ∧ w2.frozen? ⟨W.heap.size, 0, none⟩ = false) := ⟨(World.cell?_of_block (a := ⟨W.heap.size, 0, none⟩) hsame).trans hc1, (World.frozen?_of_block (a := ⟨W.heap.size, 0, none⟩) hsame).trans hf1⟩
        obtain ⟨dn, hsn, hpn, hrn⟩ := HE
        have HE2 : Hid (dn.size = n ∧ Sort.PermIn a b d dn ∧ Row blk w2 dn) := ⟨hsn, hpn, hrn⟩
        clear hc1 hf1 hfq hr2 hf2 hsame hsn hpn hrn HN
        go_roundw
        case rel => exact ⟨idx + 1, dn, y, by go_num, by omega, by omega, HE2.out.1, HE2.out.2.1, HE2.out.2.2, HF2.out, hy0, hy1, HC2.out.1, HC2.out.2⟩
        case measure => simp [intOf]; omega
    · have hle' : ¬ (idx : Int) ≤ (a : Int) + ((b : Int) - (a : Int)) / 4 * 2 + 1 := by omega
      clear hc hf
      go_wp2
      go_end0
      exact ⟨rfl, dk, hpm, hrow, hfr⟩
end Go.Proofs.Ybulkahag
