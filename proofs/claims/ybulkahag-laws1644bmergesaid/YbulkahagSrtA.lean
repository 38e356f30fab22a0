import Derived.Test.YbulkahagKp
import Derived.Sort.WalkA
import Derived.Shelf.Abstract
namespace Go.Proofs.Ybulkahag
open Go.RowKit Go.Shelf
set_option linter.unusedVariables false

theorem findLess (blk n : Nat) : ∀ w, Sem.run Yba.prog (method 251 92 (rvOf blk n) "Less") w = .ok (61, rvOf blk n) w := fun _ => by kernel_rfl
theorem findSwap (blk n : Nat) : ∀ w, Sem.run Yba.prog (method 251 92 (rvOf blk n) "Swap") w = .ok (62, rvOf blk n) w := fun _ => by kernel_rfl
theorem findLen (blk n : Nat) : ∀ w, Sem.run Yba.prog (method 251 92 (rvOf blk n) "Len") w = .ok (60, rvOf blk n) w := fun _ => by kernel_rfl
theorem enterLen : ∀ args w, (callFunc 60 args).run Yba.prog w = .ok (.enter 60 args) w := enters_of Yba.func60 (by kernel_rfl) rfl
theorem enterLess : ∀ args w, (callFunc 61 args).run Yba.prog w = .ok (.enter 61 args) w := enters_of Yba.func61 (by kernel_rfl) rfl
theorem enterSwap : ∀ args w, (callFunc 62 args).run Yba.prog w = .ok (.enter 62 args) w := enters_of Yba.func62 (by kernel_rfl) rfl

theorem swp_size (d : Array Kp) (i j : Nat) : (Sort.swp d i j).size = d.size := by simp [Sort.swp]

set_option maxHeartbeats 2000000 in
set_option maxRecDepth 100000 in
theorem ins_any (blk n : Nat) (d : Array Kp) (hn : d.size = n) (h64 : n ≤ 64) (a b : Nat) (hab : a ≤ b) (hb : b ≤ n) (W : World) (h : Row blk W d) :
    Calls Yba.prog 20 #[.iface 92 (rvOf blk n), .int .i64 a, .int .i64 b] W fun e w' => e = .returned (.tuple #[]) ∧ Row blk w' (Sort.insertionSort lt d a b) ∧ Fr blk W w' := by
  have mL := findLess blk n
  have mS := findSwap blk n
  have eL := enterLess
  have eS := enterSwap
  have H : Hid (Row blk W d) := h
  clear h
  go_enter Yba.func20, Yba.ntmps20
  go_wp2
  go_loopw [6] (fun vi wr => ∃ (i : Nat) (dk : Array Kp), vi = .int .i64 i ∧ a < i ∧ i ≤ b + 1 ∧ dk.size = n ∧ Row blk wr dk ∧ Fr blk W wr ∧ Sort.insOuter lt a b i dk = Sort.insertionSort lt d a b) (fun vi _ => b + 1 - (intOf vi).toNat)
  case atStart => exact ⟨a + 1, d, by go_num, by omega, by omega, hn, H.out, Fr.refl _ _, rfl⟩
  case round =>
    obtain ⟨i, dk, rfl, hai, hib, hsk, hrow, hfr, heq⟩ := hrel
    by_cases hlt : i < b
    · have hlt' : (i : Int) < (b : Int) := by omega
      have Hrow : Hid (Row blk wr dk) := hrow
      have Hfr : Hid (Fr blk W wr) := hfr
      have Heq : Hid (Sort.insOuter lt a b (i + 1) (Sort.insInner lt a i dk) = Sort.insertionSort lt d a b) := (insOuter_go lt a b i dk hlt).symm.trans heq
      clear hrow hfr heq
      go_wp2
      go_loopw [7] (fun vj wr => ∃ (j : Nat) (dj : Array Kp), vj = .int .i64 j ∧ a ≤ j ∧ j ≤ i ∧ dj.size = n ∧ Row blk wr dj ∧ Fr blk W wr ∧ Sort.insInner lt a j dj = Sort.insInner lt a i dk) (fun vj _ => (intOf vj).toNat)
      case atStart => exact ⟨i, dk, rfl, by omega, Nat.le_refl _, hsk, Hrow.out, Hfr.out, rfl⟩
      case round =>
        clear Hrow Hfr
        obtain ⟨j, dj, rfl, haj, hji, hsj, hrow, hfr, heq⟩ := hrel
        by_cases hja : a < j
        · have hl := less_any blk n dj hsj j (j - 1) (by omega) (by omega) wr hrow
          rw [show (((j - 1 : Nat) : Int)) = (j : Int) - 1 by omega] at hl
          cases hlv : lt dj[j]! dj[j - 1]! with
          | true =>
            rw [hlv] at hl
            have hsw := fun w2 (hr : Row blk w2 dj) => swap_any blk n dj hsj j (j - 1) (by omega) (by omega) w2 hr
            rw [show (((j - 1 : Nat) : Int)) = (j : Int) - 1 by omega] at hsw
            have Heq2 : Hid (Sort.insInner lt a (j - 1) (Sort.swp dj j (j - 1)) = Sort.insInner lt a i dk) := (insInner_go lt a j dj hja hlv).symm.trans heq
            have Hfr : Hid (Fr blk W wr) := hfr
            clear hrow hfr heq hlv
            go_wp2_with (first
              | (go_at_fn 61; refine hl.mono ?_; rintro e w1 ⟨rfl, hr1, hf1⟩)
              | (go_at_fn 62; refine (hsw _ hr1).mono ?_; rintro e w2 ⟨rfl, hr2, hf2⟩))
            have HF : Hid (Fr blk W w2) := (Hfr.out.trans hf1).trans hf2
            have HR : Hid (Row blk w2 (Sort.swp dj j (j - 1))) := hr2
            clear hl hsw hr1 hf1 hr2 hf2
            go_roundw
            case rel => exact ⟨j - 1, Sort.swp dj j (j - 1), by congr 1; omega, by omega, by omega, (swp_size _ _ _).trans hsj, HR.out, HF.out, Heq2.out⟩
            case measure => simp [intOf]; omega
          | false =>
            rw [hlv] at hl
            have Heq2 : Hid (Sort.insInner lt a i dk = dj) := heq.symm.trans (insInner_stop lt a j dj (.inr hlv))
            have Hfr : Hid (Fr blk W wr) := hfr
            clear hrow hfr heq hlv
            go_wp2_with (go_at_fn 61; refine hl.mono ?_; rintro e w1 ⟨rfl, hr1, hf1⟩)
            have HF : Hid (Fr blk W w1) := Hfr.out.trans hf1
            have HR : Hid (Row blk w1 dj) := hr1
            clear hl hr1 hf1
            go_roundw
            case rel => exact ⟨i + 1, dj, by go_num, by omega, by omega, hsj, HR.out, HF.out, by rw [← Heq.out, Heq2.out]⟩
            case measure => simp [intOf]; omega
        · have Heq2 : Hid (Sort.insInner lt a i dk = dj) := heq.symm.trans (insInner_stop lt a j dj (.inl (by omega)))
          have Hfr : Hid (Fr blk W wr) := hfr
          have Hrow : Hid (Row blk wr dj) := hrow
          clear hrow hfr heq
          go_wp2
          go_roundw
          case rel => exact ⟨i + 1, dj, by go_num, by omega, by omega, hsj, Hrow.out, Hfr.out, by rw [← Heq.out, Heq2.out]⟩
          case measure => simp [intOf]; omega
    · rw [insOuter_stop lt a b i dk hlt] at heq
      subst heq
      go_wp2
      go_end0
      exact ⟨rfl, hrow, hfr⟩
end Go.Proofs.Ybulkahag
