import Derived.Test.YbulkahagSrtA
namespace Go.Proofs.Ybulkahag
open Go.RowKit Go.Shelf
set_option linter.unusedVariables false

/-- Less, at numbers that are told by an equation -/
theorem less_at {blk n : Nat} {d : Array Kp} {W : World} (h : Row blk W d) (hn : d.size = n) (i j : Nat) {v : Bool} (hv : lt d[i]! d[j]! = v) {I J : Int} (hI : I = i) (hJ : J = j) (hi : i < n) (hj : j < n) :
    Calls Yba.prog 61 #[rvOf blk n, .int .i64 I, .int .i64 J] W fun e w' => e = .returned (.bool v) ∧ Row blk w' d ∧ Fr blk W w' := by
  subst hI hJ hv
  exact less_any blk n d hn i j hi hj W h
theorem swap_at {blk n : Nat} {d : Array Kp} {W : World} (h : Row blk W d) (hn : d.size = n) (i j : Nat) {I J : Int} (hI : I = i) (hJ : J = j) (hi : i < n) (hj : j < n) :
    Calls Yba.prog 62 #[rvOf blk n, .int .i64 I, .int .i64 J] W fun e w' => e = .returned (.tuple #[]) ∧ Row blk w' (Sort.swp d i j) ∧ Fr blk W w' := by
  subst hI hJ
  exact swap_any blk n d hn i j hi hj W h

set_option maxHeartbeats 2000000 in
set_option maxRecDepth 100000 in
theorem reverse_any (blk n : Nat) (d : Array Kp) (hn : d.size = n) (h64 : n ≤ 64) (a b : Nat) (hab : a < b) (hb : b ≤ n) (W : World) (h : Row blk W d) :
    Calls Yba.prog 24 #[.iface 92 (rvOf blk n), .int .i64 a, .int .i64 b] W fun e w' => e = .returned (.tuple #[]) ∧ Row blk w' (Sort.reverseRange d a b) ∧ Fr blk W w' := by
  have mS := findSwap blk n
  have eS := enterSwap
  have H : Hid (Row blk W d) := h
  clear h
  go_enter Yba.func24, Yba.ntmps24
  go_wp2
  go_loopw [6, 7] (fun vi vj wr => ∃ (i j : Nat) (dk : Array Kp), vi = .int .i64 i ∧ vj = .int .i64 j ∧ i ≤ j + 1 ∧ j < b ∧ dk.size = n ∧ Row blk wr dk ∧ Fr blk W wr ∧ Sort.reverseLoop i j dk = Sort.reverseRange d a b) (fun vi vj _ => (intOf vj).toNat + 1 - (intOf vi).toNat)
  case atStart => exact ⟨a, b - 1, d, rfl, by congr 1; omega, by omega, by omega, hn, H.out, Fr.refl _ _, rfl⟩
  case round =>
    obtain ⟨i, j, dk, rfl, rfl, hij, hjb, hsk, hrow, hfr, heq⟩ := hrel
    by_cases hlt : i < j
    · have hlt' : (i : Int) < (j : Int) := by omega
      have Heq : Hid (Sort.reverseLoop (i + 1) (j - 1) (Sort.swp dk i j) = Sort.reverseRange d a b) := by
        show _ = _
        rw [← heq, Sort.reverseLoop.eq_1 i j dk, if_pos hlt]
      have hsw := swap_any blk n dk hsk i j (by omega) (by omega) wr hrow
      have Hfr : Hid (Fr blk W wr) := hfr
      clear hrow hfr heq
      go_wp2_with (go_at_fn 62; refine hsw.mono ?_; rintro e w2 ⟨rfl, hr2, hf2⟩)
      have HF : Hid (Fr blk W w2) := Hfr.out.trans hf2
      have HR : Hid (Row blk w2 (Sort.swp dk i j)) := hr2
      clear hsw hr2 hf2
      go_roundw
      case rel => exact ⟨i + 1, j - 1, Sort.swp dk i j, by go_num, by congr 1; omega, by omega, by omega, (swp_size _ _ _).trans hsk, HR.out, HF.out, Heq.out⟩
      case measure => simp [intOf]; omega
    · rw [Sort.reverseLoop.eq_1 i j dk, if_neg hlt] at heq
      subst heq
      go_wp2
      go_end0
      exact ⟨rfl, hrow, hfr⟩

theorem sift_stop {hi first root : Nat} {d : Array Kp} (h : hi ≤ 2 * root + 1) : Sort.siftDown lt hi first root d = d := by
  rw [Sort.siftDown, dif_pos h]
theorem sift_two {hi first root : Nat} {d : Array Kp} (h : 2 * root + 1 + 1 < hi) (h1 : lt d[first + (2 * root + 1)]! d[first + (2 * root + 1) + 1]! = true) :
    Sort.siftDown lt hi first root d = if lt d[first + root]! d[first + (2 * root + 2)]! then Sort.siftDown lt hi first (2 * root + 2) (Sort.swp d (first + root) (first + (2 * root + 2))) else d := by
  rw [Sort.siftDown, dif_neg (by omega), h1]
  have : decide (2 * root + 1 + 1 < hi) = true := decide_eq_true h
  rw [this]
  simp only [Bool.and_self, if_true]
  cases lt d[first + root]! d[first + (2 * root + 2)]!
  · simp
  · simp only [Bool.not_true, Bool.false_eq_true, if_false, if_true]
    rw [dif_pos (by omega)]
theorem sift_one {hi first root : Nat} {d : Array Kp} (h : ¬ hi ≤ 2 * root + 1) (h1 : ¬ 2 * root + 1 + 1 < hi ∨ lt d[first + (2 * root + 1)]! d[first + (2 * root + 1) + 1]! = false) :
    Sort.siftDown lt hi first root d = if lt d[first + root]! d[first + (2 * root + 1)]! then Sort.siftDown lt hi first (2 * root + 1) (Sort.swp d (first + root) (first + (2 * root + 1))) else d := by
  rw [Sort.siftDown, dif_neg h]
  have : (decide (2 * root + 1 + 1 < hi) && lt d[first + (2 * root + 1)]! d[first + (2 * root + 1) + 1]!) = false := by
    rcases h1 with h1 | h1
    · rw [decide_eq_false h1]; rfl
    · rw [h1]; simp
  rw [this]
  simp only [Bool.false_eq_true, if_false]
  cases lt d[first + root]! d[first + (2 * root + 1)]! <;> simp

set_option maxHeartbeats 4000000 in
set_option maxRecDepth 100000 in
theorem sift_any (blk n : Nat) (d : Array Kp) (hn : d.size = n) (h64 : n ≤ 64) (lo hi first : Nat) (hlo : lo ≤ 64) (hb : first + hi ≤ n) (W : World) (h : Row blk W d) :
    Calls Yba.prog 30 #[.iface 92 (rvOf blk n), .int .i64 lo, .int .i64 hi, .int .i64 first] W fun e w' => e = .returned (.tuple #[]) ∧ Row blk w' (Sort.siftDown lt hi first lo d) ∧ Fr blk W w' := by
  have mL := findLess blk n
  have mS := findSwap blk n
  have eL := enterLess
  have eS := enterSwap
  have H : Hid (Row blk W d) := h
  clear h
  go_enter Yba.func30, Yba.ntmps30
  go_wp2
  go_loopw [8] (fun v wr => ∃ (root : Nat) (dk : Array Kp), v = .int .i64 root ∧ root ≤ 64 ∧ dk.size = n ∧ Row blk wr dk ∧ Fr blk W wr ∧ Sort.siftDown lt hi first root dk = Sort.siftDown lt hi first lo d) (fun v _ => 64 - (intOf v).toNat)
  case atStart => exact ⟨lo, d, rfl, hlo, hn, H.out, Fr.refl _ _, rfl⟩
  case round =>
    obtain ⟨root, dk, rfl, hr64, hsk, hrow, hfr, heq⟩ := hrel
    by_cases hch : hi ≤ 2 * root + 1
    · have hch' : (hi : Int) ≤ 2 * (root : Int) + 1 := by omega
      rw [sift_stop hch] at heq
      subst heq
      go_wp2
      go_end0
      exact ⟨rfl, hrow, hfr⟩
    · have hch' : ¬ (hi : Int) ≤ 2 * (root : Int) + 1 := by omega
      have Hrow : Hid (Row blk wr dk) := hrow
      have Hfr : Hid (Fr blk W wr) := hfr
      by_cases hc1 : 2 * root + 1 + 1 < hi
      · have hc1' : 2 * (root : Int) + 1 + 1 < (hi : Int) := by omega
        cases hv1 : lt dk[first + (2 * root + 1)]! dk[first + (2 * root + 1) + 1]! with
        | true =>
          rw [sift_two hc1 hv1] at heq
          cases hv2 : lt dk[first + root]! dk[first + (2 * root + 2)]! with
          | true =>
            rw [hv2, if_pos rfl] at heq
            have Heq : Hid (Sort.siftDown lt hi first (2 * root + 2) (Sort.swp dk (first + root) (first + (2 * root + 2))) = Sort.siftDown lt hi first lo d) := heq
            have Hv1 : Hid (lt dk[first + (2 * root + 1)]! dk[first + (2 * root + 1) + 1]! = true) := hv1
            have Hv2 : Hid (lt dk[first + root]! dk[first + (2 * root + 2)]! = true) := hv2
            clear heq hv1 hv2 hrow hfr
            go_wp2_with (first
              | (go_at_fn 61; refine (less_at Hrow.out hsk _ _ Hv1.out (by omega) (by omega) (by omega) (by omega)).mono ?_; rintro e w1 ⟨rfl, hr1, hf1⟩)
              | (go_at_fn 61; refine (less_at hr1 hsk _ _ Hv2.out (by omega) (by omega) (by omega) (by omega)).mono ?_; rintro e w2 ⟨rfl, hr2, hf2⟩)
              | (go_at_fn 62; refine (swap_at hr2 hsk (first + root) (first + (2 * root + 2)) (by omega) (by omega) (by omega) (by omega)).mono ?_; rintro e w3 ⟨rfl, hr3, hf3⟩))
            have HF : Hid (Fr blk W w3) := ((Hfr.out.trans hf1).trans hf2).trans hf3
            have HR : Hid (Row blk w3 (Sort.swp dk (first + root) (first + (2 * root + 2)))) := hr3
            clear hr1 hr2 hr3 hf1 hf2 hf3
            go_roundw
            case rel => exact ⟨2 * root + 2, _, by congr 1 <;> omega, by omega, (swp_size _ _ _).trans hsk, HR.out, HF.out, Heq.out⟩
            case measure => simp [intOf]; omega
          | false =>
            rw [hv2, if_neg (by decide)] at heq
            have Heq : Hid (dk = Sort.siftDown lt hi first lo d) := heq
            have Hv1 : Hid (lt dk[first + (2 * root + 1)]! dk[first + (2 * root + 1) + 1]! = true) := hv1
            have Hv2 : Hid (lt dk[first + root]! dk[first + (2 * root + 2)]! = false) := hv2
            clear heq hv1 hv2 hrow hfr
            go_wp2_with (first
              | (go_at_fn 61; refine (less_at Hrow.out hsk _ _ Hv1.out (by omega) (by omega) (by omega) (by omega)).mono ?_; rintro e w1 ⟨rfl, hr1, hf1⟩)
              | (go_at_fn 61; refine (less_at hr1 hsk _ _ Hv2.out (by omega) (by omega) (by omega) (by omega)).mono ?_; rintro e w2 ⟨rfl, hr2, hf2⟩))
            (try simp only [Exit.inBlock, Exit.then])
            refine bodyPost_ret (results_none rfl _ _ _) rfl ?_
            exact ⟨rfl, by rw [← Heq.out]; exact hr2, (Hfr.out.trans hf1).trans hf2⟩
        | false =>
          rw [sift_one hch (.inr hv1)] at heq
          cases hv2 : lt dk[first + root]! dk[first + (2 * root + 1)]! with
          | true =>
            rw [hv2, if_pos rfl] at heq
            have Heq : Hid (Sort.siftDown lt hi first (2 * root + 1) (Sort.swp dk (first + root) (first + (2 * root + 1))) = Sort.siftDown lt hi first lo d) := heq
            have Hv1 : Hid (lt dk[first + (2 * root + 1)]! dk[first + (2 * root + 1) + 1]! = false) := hv1
            have Hv2 : Hid (lt dk[first + root]! dk[first + (2 * root + 1)]! = true) := hv2
            clear heq hv1 hv2 hrow hfr
            go_wp2_with (first
              | (go_at_fn 61; refine (less_at Hrow.out hsk _ _ Hv1.out (by omega) (by omega) (by omega) (by omega)).mono ?_; rintro e w1 ⟨rfl, hr1, hf1⟩)
              | (go_at_fn 61; refine (less_at hr1 hsk _ _ Hv2.out (by omega) (by omega) (by omega) (by omega)).mono ?_; rintro e w2 ⟨rfl, hr2, hf2⟩)
              | (go_at_fn 62; refine (swap_at hr2 hsk (first + root) (first + (2 * root + 1)) (by omega) (by omega) (by omega) (by omega)).mono ?_; rintro e w3 ⟨rfl, hr3, hf3⟩))
            have HF : Hid (Fr blk W w3) := ((Hfr.out.trans hf1).trans hf2).trans hf3
            have HR : Hid (Row blk w3 (Sort.swp dk (first + root) (first + (2 * root + 1)))) := hr3
            clear hr1 hr2 hr3 hf1 hf2 hf3
            go_roundw
            case rel => exact ⟨2 * root + 1, _, by congr 1 <;> omega, by omega, (swp_size _ _ _).trans hsk, HR.out, HF.out, Heq.out⟩
            case measure => simp [intOf]; omega
          | false =>
            rw [hv2, if_neg (by decide)] at heq
            have Heq : Hid (dk = Sort.siftDown lt hi first lo d) := heq
            have Hv1 : Hid (lt dk[first + (2 * root + 1)]! dk[first + (2 * root + 1) + 1]! = false) := hv1
            have Hv2 : Hid (lt dk[first + root]! dk[first + (2 * root + 1)]! = false) := hv2
            clear heq hv1 hv2 hrow hfr
            go_wp2_with (first
              | (go_at_fn 61; refine (less_at Hrow.out hsk _ _ Hv1.out (by omega) (by omega) (by omega) (by omega)).mono ?_; rintro e w1 ⟨rfl, hr1, hf1⟩)
              | (go_at_fn 61; refine (less_at hr1 hsk _ _ Hv2.out (by omega) (by omega) (by omega) (by omega)).mono ?_; rintro e w2 ⟨rfl, hr2, hf2⟩))
            (try simp only [Exit.inBlock, Exit.then])
            refine bodyPost_ret (results_none rfl _ _ _) rfl ?_
            exact ⟨rfl, by rw [← Heq.out]; exact hr2, (Hfr.out.trans hf1).trans hf2⟩
      · have hc1' : ¬ 2 * (root : Int) + 1 + 1 < (hi : Int) := by omega
        rw [sift_one hch (.inl hc1)] at heq
        cases hv2 : lt dk[first + root]! dk[first + (2 * root + 1)]! with
        | true =>
          rw [hv2, if_pos rfl] at heq
          have Heq : Hid (Sort.siftDown lt hi first (2 * root + 1) (Sort.swp dk (first + root) (first + (2 * root + 1))) = Sort.siftDown lt hi first lo d) := heq
          have Hv2 : Hid (lt dk[first + root]! dk[first + (2 * root + 1)]! = true) := hv2
          clear heq hv2 hrow hfr
          go_wp2_with (first
            | (go_at_fn 61; refine (less_at Hrow.out hsk _ _ Hv2.out (by omega) (by omega) (by omega) (by omega)).mono ?_; rintro e w2 ⟨rfl, hr2, hf2⟩)
            | (go_at_fn 62; refine (swap_at hr2 hsk (first + root) (first + (2 * root + 1)) (by omega) (by omega) (by omega) (by omega)).mono ?_; rintro e w3 ⟨rfl, hr3, hf3⟩))
          have HF : Hid (Fr blk W w3) := (Hfr.out.trans hf2).trans hf3
          have HR : Hid (Row blk w3 (Sort.swp dk (first + root) (first + (2 * root + 1)))) := hr3
          clear hr2 hr3 hf2 hf3
          go_roundw
          case rel => exact ⟨2 * root + 1, _, by congr 1 <;> omega, by omega, (swp_size _ _ _).trans hsk, HR.out, HF.out, Heq.out⟩
          case measure => simp [intOf]; omega
        | false =>
          rw [hv2, if_neg (by decide)] at heq
          have Heq : Hid (dk = Sort.siftDown lt hi first lo d) := heq
          have Hv2 : Hid (lt dk[first + root]! dk[first + (2 * root + 1)]! = false) := hv2
          clear heq hv2 hrow hfr
          go_wp2_with (go_at_fn 61; refine (less_at Hrow.out hsk _ _ Hv2.out (by omega) (by omega) (by omega) (by omega)).mono ?_; rintro e w2 ⟨rfl, hr2, hf2⟩)
          (try simp only [Exit.inBlock, Exit.then])
          refine bodyPost_ret (results_none rfl _ _ _) rfl ?_
          exact ⟨rfl, by rw [← Heq.out]; exact hr2, Hfr.out.trans hf2⟩
end Go.Proofs.Ybulkahag
