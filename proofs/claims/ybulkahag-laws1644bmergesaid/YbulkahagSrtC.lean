import Derived.Test.YbulkahagSrtB
namespace Go.Proofs.Ybulkahag
open Go.RowKit Go.Shelf
set_option linter.unusedVariables false

theorem sift_at {blk n : Nat} {d : Array Kp} {W : World} (h : Row blk W d) (hn : d.size = n) (h64 : n ≤ 64) (lo hi first : Nat) {I J K : Int} (hI : I = lo) (hJ : J = hi) (hK : K = first) (hlo : lo ≤ 64) (hb : first + hi ≤ n) :
    Calls Yba.prog 30 #[.iface 92 (rvOf blk n), .int .i64 I, .int .i64 J, .int .i64 K] W fun e w' => e = .returned (.tuple #[]) ∧ Row blk w' (Sort.siftDown lt hi first lo d) ∧ Fr blk W w' := by
  subst hI hJ hK
  exact sift_any blk n d hn h64 lo hi first hlo hb W h

theorem sift_size (hi first : Nat) : ∀ (m root : Nat) (d : Array Kp), hi - root ≤ m → (Sort.siftDown lt hi first root d).size = d.size := by
  intro m
  induction m with
  | zero => intro root d h; rw [sift_stop (by omega)]
  | succ m ih =>
    intro root d h
    by_cases hch : hi ≤ 2 * root + 1
    · rw [sift_stop hch]
    · by_cases hc1 : 2 * root + 1 + 1 < hi ∧ lt d[first + (2 * root + 1)]! d[first + (2 * root + 1) + 1]! = true
      · rw [sift_two hc1.1 hc1.2]
        split
        · rw [ih _ _ (by omega), swp_size]
        · rfl
      · rw [sift_one hch (by
          by_cases h1 : 2 * root + 1 + 1 < hi
          · right
            cases hv : lt d[first + (2 * root + 1)]! d[first + (2 * root + 1) + 1]!
            · rfl
            · exact absurd ⟨h1, hv⟩ hc1
          · exact .inl h1)]
        split
        · rw [ih _ _ (by omega), swp_size]
        · rfl

set_option maxHeartbeats 2000000 in
set_option maxRecDepth 100000 in
theorem heap_any (blk n : Nat) (d : Array Kp) (hn : d.size = n) (h64 : n ≤ 64) (a b : Nat) (hab : a < b) (hb : b ≤ n) (W : World) (h : Row blk W d) :
    Calls Yba.prog 21 #[.iface 92 (rvOf blk n), .int .i64 a, .int .i64 b] W fun e w' => e = .returned (.tuple #[]) ∧ Row blk w' (Sort.heapSort lt d a b) ∧ Fr blk W w' := by
  have mS := findSwap blk n
  have eS := enterSwap
  have H : Hid (Row blk W d) := h
  have q0 : ((b : Int) - (a : Int) - 1).tdiv 2 = (((b - a - 1) / 2 : Nat) : Int) := by
    rw [Int.tdiv_eq_ediv_of_nonneg (by omega)]
    omega
  clear h
  go_enter Yba.func21, Yba.ntmps21
  go_wp2
  go_loopw [9] (fun v wr => ∃ (x : Int) (k : Nat) (dk : Array Kp), v = .int .i64 x ∧ x = (k : Int) - 1 ∧ k ≤ 64 ∧ dk.size = n ∧ Row blk wr dk ∧ Fr blk W wr ∧ Sort.heapBuild lt (b - a) a k dk = Sort.heapBuild lt (b - a) a ((b - a - 1) / 2 + 1) d) (fun v _ => ((intOf v) + 1).toNat)
  case atStart => exact ⟨_, (b - a - 1) / 2 + 1, d, rfl, by omega, by omega, hn, H.out, Fr.refl _ _, rfl⟩
  case round =>
    obtain ⟨x, k, dk, rfl, hx, hk64, hsk, hrow, hfr, heq⟩ := hrel
    cases k with
    | succ k =>
      have hx0 : (0 : Int) ≤ x := by omega
      have Hfr : Hid (Fr blk W wr) := hfr
      have Hrow : Hid (Row blk wr dk) := hrow
      have Heq : Hid (Sort.heapBuild lt (b - a) a k (Sort.siftDown lt (b - a) a k dk) = Sort.heapBuild lt (b - a) a ((b - a - 1) / 2 + 1) d) := heq
      clear hrow hfr heq
      go_wp2_with (go_at_call 30; refine (sift_at Hrow.out hsk h64 k (b - a) a (by omega) (by omega) rfl (by omega) (by omega)).mono ?_; rintro e w1 ⟨rfl, hr1, hf1⟩)
      have HF : Hid (Fr blk W w1) := Hfr.out.trans hf1
      have HR : Hid (Row blk w1 (Sort.siftDown lt (b - a) a k dk)) := hr1
      clear hr1 hf1
      go_roundw
      case rel => exact ⟨_, k, _, rfl, by omega, by omega, (sift_size _ _ _ _ _ (Nat.le_refl _)).trans hsk, HR.out, HF.out, Heq.out⟩
      case measure => simp [intOf]; omega
    | zero =>
      have hx0 : ¬ (0 : Int) ≤ x := by omega
      have Heq : Hid (dk = Sort.heapBuild lt (b - a) a ((b - a - 1) / 2 + 1) d) := heq
      have Hfr : Hid (Fr blk W wr) := hfr
      have Hrow : Hid (Row blk wr dk) := hrow
      clear hrow hfr heq hx
      go_wp2
      go_loopw [10] (fun v wr => ∃ (y : Int) (k : Nat) (dj : Array Kp), v = .int .i64 y ∧ y = (k : Int) - 1 ∧ k ≤ b - a ∧ dj.size = n ∧ Row blk wr dj ∧ Fr blk W wr ∧ Sort.heapPop lt a k dj = Sort.heapPop lt a (b - a) dk) (fun v _ => ((intOf v) + 1).toNat)
      case atStart => exact ⟨_, b - a, dk, rfl, by omega, Nat.le_refl _, hsk, Hrow.out, Hfr.out, rfl⟩
      case round =>
        clear Hrow Hfr
        obtain ⟨y, k, dj, rfl, hy, hkb, hsj, hrow, hfr, heq⟩ := hrel
        cases k with
        | succ k =>
          have hy0 : (0 : Int) ≤ y := by omega
          have Hfr : Hid (Fr blk W wr) := hfr
          have Hrow : Hid (Row blk wr dj) := hrow
          have Heq2 : Hid (Sort.heapPop lt a k (Sort.siftDown lt k a 0 (Sort.swp dj a (a + k))) = Sort.heapPop lt a (b - a) dk) := heq
          clear hrow hfr heq
          go_wp2_with (first
            | (go_at_fn 62; refine (swap_at Hrow.out hsj a (a + k) rfl (by omega) (by omega) (by omega)).mono ?_; rintro e w1 ⟨rfl, hr1, hf1⟩)
            | (go_at_call 30; refine (sift_at hr1 ((swp_size _ _ _).trans hsj) h64 0 k a (by omega) (by omega) rfl (by omega) (by omega)).mono ?_; rintro e w2 ⟨rfl, hr2, hf2⟩))
          have HF : Hid (Fr blk W w2) := (Hfr.out.trans hf1).trans hf2
          have HR : Hid (Row blk w2 (Sort.siftDown lt k a 0 (Sort.swp dj a (a + k)))) := hr2
          clear hr1 hf1 hr2 hf2
          go_roundw
          case rel => exact ⟨_, k, _, rfl, by omega, by omega, ((sift_size _ _ _ _ _ (Nat.le_refl _)).trans (swp_size _ _ _)).trans hsj, HR.out, HF.out, Heq2.out⟩
          case measure => simp [intOf]; omega
        | zero =>
          have hy0 : ¬ (0 : Int) ≤ y := by omega
          go_wp2
          go_end0
          refine ⟨rfl, ?_, hfr⟩
          have : dj = Sort.heapSort lt d a b := by
            show dj = Sort.heapPop lt a (b - a) _
            rw [← Heq.out]
            exact heq
          rw [← this]
          exact hrow
end Go.Proofs.Ybulkahag
