import Derived.Test.YbulkahagSrtB
import Derived.Sort.WalkA6
namespace Go.Proofs.Ybulkahag
open Go.RowKit Go.Shelf
set_option linter.unusedVariables false

theorem tf' {P : Prop} (h : true = false) : P := by cases h
theorem ft' {P : Prop} (h : false = true) : P := by cases h

set_option maxHeartbeats 8000000 in
set_option maxRecDepth 100000 in
theorem partial_any (blk n : Nat) (d : Array Kp) (hn : d.size = n) (h64 : n ≤ 64) (a b : Nat) (hab : a < b) (hb : b ≤ n) (W : World) (h : Row blk W d) :
    Calls Yba.prog 25 #[.iface 92 (rvOf blk n), .int .i64 a, .int .i64 b] W fun e w' => e = .returned (.bool (Sort.partialInsertionSort lt d a b).2) ∧ Row blk w' (Sort.partialInsertionSort lt d a b).1 ∧ Fr blk W w' := by
  have mL := findLess blk n
  have mS := findSwap blk n
  have eL := enterLess
  have eS := enterSwap
  have H : Hid (Row blk W d) := h
  clear h
  go_enter Yba.func25, Yba.ntmps25
  go_wp2
  go_loopw [7, 8] (fun vi vs wr => ∃ (i s : Nat) (dk : Array Kp), vi = .int .i64 i ∧ vs = .int .i64 s ∧ s ≤ 5 ∧ a < i ∧ i ≤ b ∧ dk.size = n ∧ Row blk wr dk ∧ Fr blk W wr ∧ Sort.partialIns lt a b (5 - s) i dk = Sort.partialInsertionSort lt d a b) (fun _ vs _ => 5 - (intOf vs).toNat)
  case atStart => exact ⟨a + 1, 0, d, by go_num, rfl, by omega, by omega, by omega, hn, H.out, Fr.refl _ _, rfl⟩
  case round =>
    obtain ⟨i0, s, dk, rfl, rfl, hs5, hai0, hib0, hsk, hrow, hfr, heq⟩ := hrel
    clear H
    by_cases hs : s < 5
    · have hs' : (s : Int) < 5 := by omega
      rw [show 5 - s = (4 - s) + 1 by omega, Sort.partialIns_succ] at heq
      have Heq : Hid ((if Sort.scanSorted lt dk b i0 = b then (dk, true) else if b - a < 50 then (dk, false) else
        Sort.partialIns lt a b (4 - s) (Sort.scanSorted lt dk b i0) (Sort.fixUp lt b (Sort.scanSorted lt dk b i0) (Sort.fixDown lt a (Sort.scanSorted lt dk b i0) (Sort.swp dk (Sort.scanSorted lt dk b i0) (Sort.scanSorted lt dk b i0 - 1))))) = Sort.partialInsertionSort lt d a b) := heq
      have Hrow : Hid (Row blk wr dk) := hrow
      have Hfr : Hid (Fr blk W wr) := hfr
      clear hrow hfr heq
      go_wp2
      go_loopw [7] (fun vi wr => ∃ i : Nat, vi = .int .i64 i ∧ a < i ∧ i ≤ b ∧ Row blk wr dk ∧ Fr blk W wr ∧ Sort.scanSorted lt dk b i = Sort.scanSorted lt dk b i0) (fun vi _ => 200 - (intOf vi).toNat)
      case atStart => exact ⟨i0, rfl, hai0, hib0, Hrow.out, Hfr.out, rfl⟩
      case round =>
        clear Hrow Hfr
        obtain ⟨i, rfl, hai, hib, hrow, hfr, hsc⟩ := hrel
        have Hrow : Hid (Row blk wr dk) := hrow
        have Hfr : Hid (Fr blk W wr) := hfr
        have Hsc : Hid (Sort.scanSorted lt dk b i = Sort.scanSorted lt dk b i0) := hsc
        clear hrow hfr hsc
        go_upto_region 5 with fail
        go_cut [27] (fun t wx => ∃ c : Bool, t = .bool c ∧ (c = true → i < b ∧ lt dk[i]! dk[i - 1]! = false) ∧ (c = false → ¬ i < b ∨ lt dk[i]! dk[i - 1]! = true) ∧ Row blk wx dk ∧ Fr blk W wx)
        case first =>
          by_cases hij : i < b
          · have hij' : (i : Int) < (b : Int) := by omega
            cases hv : lt dk[i]! dk[i - 1]! with
            | true =>
              have Hv : Hid (lt dk[i]! dk[i - 1]! = true) := hv
              clear hv
              go_wp2_with (go_at_fn 61; refine (less_at Hrow.out hsk _ _ Hv.out rfl (by omega) (by omega) (by omega)).mono ?_; rintro e w2 ⟨rfl, hr2, hf2⟩)
              go_meet
              case rel => exact ⟨false, rfl, ft', (fun _ => .inr Hv.out), hr2, Hfr.out.trans hf2⟩
            | false =>
              have Hv : Hid (lt dk[i]! dk[i - 1]! = false) := hv
              clear hv
              go_wp2_with (go_at_fn 61; refine (less_at Hrow.out hsk _ _ Hv.out rfl (by omega) (by omega) (by omega)).mono ?_; rintro e w2 ⟨rfl, hr2, hf2⟩)
              go_meet
              case rel => exact ⟨true, rfl, (fun _ => ⟨hij, Hv.out⟩), tf', hr2, Hfr.out.trans hf2⟩
          · have hij' : ¬ (i : Int) < (b : Int) := by omega
            go_wp2_with fail
            go_meet
            case rel => exact ⟨false, rfl, ft', (fun _ => .inl hij), Hrow.out, Hfr.out⟩
        case rest =>
          clear Hrow Hfr
          obtain ⟨c, rfl, hct, hcf, hrow, hfr⟩ := hcut
          cases c with
          | true =>
            obtain ⟨hij, hv⟩ := hct rfl
            have Hsc2 : Hid (Sort.scanSorted lt dk b (i + 1) = Sort.scanSorted lt dk b i0) := (scanSorted_go lt dk b i hij hv).symm.trans Hsc.out
            have Hrow : Hid (Row blk wc dk) := hrow
            have Hfr : Hid (Fr blk W wc) := hfr
            clear hv hct hcf hrow hfr Hsc
            go_wp2
            go_roundw
            case rel => exact ⟨i + 1, by go_num, by omega, by omega, Hrow.out, Hfr.out, Hsc2.out⟩
            case measure => simp [intOf]; omega
          | false =>
            have hst : Sort.scanSorted lt dk b i0 = i := Hsc.out.symm.trans (scanSorted_stop lt dk b i (hcf rfl))
            have Heq2 : Hid ((if i = b then (dk, true) else if b - a < 50 then (dk, false) else Sort.partialIns lt a b (4 - s) i (Sort.fixUp lt b i (Sort.fixDown lt a i (Sort.swp dk i (i - 1))))) = Sort.partialInsertionSort lt d a b) := by
              have := Heq.out
              rw [hst] at this
              exact this
            have Hrow : Hid (Row blk wc dk) := hrow
            have Hfr : Hid (Fr blk W wc) := hfr
            clear hct hcf hrow hfr Hsc Heq hst
            by_cases hieb : i = b
            · have HeqA : Hid ((dk, true) = Sort.partialInsertionSort lt d a b) := by
                have e := Heq2.out
                rw [if_pos hieb] at e
                exact e
              clear Heq2
              subst hieb
              go_wp2
              go_ret
              rw [← HeqA.out]
              exact ⟨rfl, Hrow.out, Hfr.out⟩
            · have hieb' : ¬ (i : Int) = (b : Int) := by omega
              have hieb2 : ((i : Int) == (b : Int)) = false := by simpa using hieb'
              by_cases hsm : b - a < 50
              · have hsm' : (b : Int) - (a : Int) < 50 := by omega
                have HeqA : Hid ((dk, false) = Sort.partialInsertionSort lt d a b) := by
                  have e := Heq2.out
                  rw [if_neg hieb, if_pos hsm] at e
                  exact e
                clear Heq2
                go_wp2
                go_ret
                rw [← HeqA.out]
                exact ⟨rfl, Hrow.out, Hfr.out⟩
              · have hsm' : ¬ (b : Int) - (a : Int) < 50 := by omega
                have Heq3 : Hid (Sort.partialIns lt a b (4 - s) i (Sort.fixUp lt b i (Sort.fixDown lt a i (Sort.swp dk i (i - 1)))) = Sort.partialInsertionSort lt d a b) := by
                  have e := Heq2.out
                  rw [if_neg hieb, if_neg hsm] at e
                  exact e
                have hlt : i < b := by omega
                clear Heq2
                go_upto_if 45 with (go_at_fn 62; refine (swap_at Hrow.out hsk i (i - 1) rfl (by omega) (by omega) (by omega)).mono ?_; rintro e w3 ⟨rfl, hr3, hf3⟩)
                have HR3 : Hid (Row blk w3 (Sort.swp dk i (i - 1))) := hr3
                have HF3 : Hid (Fr blk W w3) := Hfr.out.trans hf3
                have hsD : (Sort.swp dk i (i - 1)).size = n := (swp_size _ _ _).trans hsk
                clear hr3 hf3 Hrow Hfr
                generalize Sort.swp dk i (i - 1) = D at *
                go_cut [9] (fun _ wx => Row blk wx (Sort.fixDown lt a i D) ∧ (Sort.fixDown lt a i D).size = n ∧ Fr blk W wx)
                case first =>
                  by_cases hg : i - a ≥ 2
                  · have hg' : (2 : Int) ≤ (i : Int) - (a : Int) := by omega
                    have hgd : decide ((2 : Int) ≤ (i : Int) - (a : Int)) = true := decide_eq_true hg'
                    have HD : Hid (Sort.fixDown lt a i D = Sort.shiftDown lt (i - 1) D) := if_pos hg
                    clear Heq3
                    rw [hgd]
                    clear hgd hg'
                    go_wp2
                    go_loopw [9] (fun vj wr => ∃ (j : Nat) (dj : Array Kp), vj = .int .i64 j ∧ j ≤ i - 1 ∧ dj.size = n ∧ Row blk wr dj ∧ Fr blk W wr ∧ Sort.shiftDown lt j dj = Sort.shiftDown lt (i - 1) D) (fun vj _ => (intOf vj).toNat)
                    case atStart => exact ⟨i - 1, D, by congr 1 <;> omega, Nat.le_refl _, hsD, HR3.out, HF3.out, rfl⟩
                    case round =>
                      clear HR3 HF3
                      obtain ⟨j, dj, rfl, hji, hsj, hrow, hfr, heq⟩ := hrel
                      have Hrow : Hid (Row blk wr dj) := hrow
                      have Hfr : Hid (Fr blk W wr) := hfr
                      by_cases hj1 : 1 ≤ j
                      · have hj1' : (1 : Int) ≤ (j : Int) := by omega
                        cases hv : lt dj[j]! dj[j - 1]! with
                        | true =>
                          have Heq2 : Hid (Sort.shiftDown lt (j - 1) (Sort.swp dj j (j - 1)) = Sort.shiftDown lt (i - 1) D) := (shiftDown_go lt j dj hj1 hv).symm.trans heq
                          have Hv : Hid (lt dj[j]! dj[j - 1]! = true) := hv
                          clear hv heq hrow hfr
                          go_wp2_with (first
                            | (go_at_fn 61; refine (less_at Hrow.out hsj _ _ Hv.out rfl (by omega) (by omega) (by omega)).mono ?_; rintro e w4 ⟨rfl, hr4, hf4⟩)
                            | (go_at_fn 62; refine (swap_at hr4 hsj j (j - 1) rfl (by omega) (by omega) (by omega)).mono ?_; rintro e w5 ⟨rfl, hr5, hf5⟩))
                          have HR5 : Hid (Row blk w5 (Sort.swp dj j (j - 1))) := hr5
                          have HF5 : Hid (Fr blk W w5) := (Hfr.out.trans hf4).trans hf5
                          clear hr4 hf4 hr5 hf5
                          go_roundw
                          case rel => exact ⟨j - 1, _, by congr 1 <;> omega, by omega, (swp_size _ _ _).trans hsj, HR5.out, HF5.out, Heq2.out⟩
                          case measure => simp [intOf]; omega
                        | false =>
                          have Heq2 : Hid (dj = Sort.fixDown lt a i D) := ((shiftDown_stop lt j dj (.inr hv)).symm.trans heq).trans HD.out.symm
                          have Hv : Hid (lt dj[j]! dj[j - 1]! = false) := hv
                          clear hv heq hrow hfr
                          go_wp2_with (go_at_fn 61; refine (less_at Hrow.out hsj _ _ Hv.out rfl (by omega) (by omega) (by omega)).mono ?_; rintro e w4 ⟨rfl, hr4, hf4⟩)
                          go_meet
                          case rel => exact ⟨by rw [← Heq2.out]; exact hr4, by rw [← Heq2.out]; exact hsj, Hfr.out.trans hf4⟩
                      · have hj0 : j = 0 := by omega
                        have Heq2 : Hid (dj = Sort.fixDown lt a i D) := ((shiftDown_stop lt j dj (.inl hj0)).symm.trans heq).trans HD.out.symm
                        have hj1' : ¬ (1 : Int) ≤ (j : Int) := by omega
                        clear heq hrow hfr
                        go_wp2_with fail
                        go_meet
                        case rel => exact ⟨by rw [← Heq2.out]; exact Hrow.out, by rw [← Heq2.out]; exact hsj, Hfr.out⟩
                  · have hg' : ¬ (2 : Int) ≤ (i : Int) - (a : Int) := by omega
                    have hgd : decide ((2 : Int) ≤ (i : Int) - (a : Int)) = false := decide_eq_false hg'
                    have HD : Hid (Sort.fixDown lt a i D = D) := if_neg hg
                    go_wp2_with fail
                    go_meet
                    case rel => exact ⟨by rw [HD.out]; exact HR3.out, by rw [HD.out]; exact hsD, HF3.out⟩
                case rest =>
                  clear HR3 HF3
                  obtain ⟨hrow, hsE, hfr⟩ := hcut
                  have HR6 : Hid (Row blk wc (Sort.fixDown lt a i D)) := hrow
                  have HF6 : Hid (Fr blk W wc) := hfr
                  clear hrow hfr hsD
                  generalize Sort.fixDown lt a i D = E at *
                  go_upto_if 66 with fail
                  by_cases hg : b - i ≥ 2
                  · have hg' : (2 : Int) ≤ (b : Int) - (i : Int) := by omega
                    have hgd : decide ((2 : Int) ≤ (b : Int) - (i : Int)) = true := decide_eq_true hg'
                    have HD : Hid (Sort.fixUp lt b i E = Sort.shiftUp lt b (i + 1) E) := if_pos hg
                    rw [hgd]
                    clear hgd hg'
                    go_wp2
                    go_loopw [10] (fun vj wr => ∃ (j : Nat) (dj : Array Kp), vj = .int .i64 j ∧ i + 1 ≤ j ∧ j ≤ b ∧ dj.size = n ∧ Row blk wr dj ∧ Fr blk W wr ∧ Sort.shiftUp lt b j dj = Sort.shiftUp lt b (i + 1) E) (fun vj _ => 200 - (intOf vj).toNat)
                    case atStart => exact ⟨i + 1, E, by go_num, Nat.le_refl _, by omega, hsE, HR6.out, HF6.out, rfl⟩
                    case round =>
                      clear HR6 HF6
                      obtain ⟨j, dj, rfl, hij, hjb, hsj, hrow, hfr, heq⟩ := hrel
                      have Hrow : Hid (Row blk wr dj) := hrow
                      have Hfr : Hid (Fr blk W wr) := hfr
                      by_cases hj1 : j < b
                      · have hj1' : (j : Int) < (b : Int) := by omega
                        cases hv : lt dj[j]! dj[j - 1]! with
                        | true =>
                          have Heq2 : Hid (Sort.shiftUp lt b (j + 1) (Sort.swp dj j (j - 1)) = Sort.shiftUp lt b (i + 1) E) := (shiftUp_go lt b j dj hj1 hv).symm.trans heq
                          have Hv : Hid (lt dj[j]! dj[j - 1]! = true) := hv
                          clear hv heq hrow hfr
                          go_wp2_with (first
                            | (go_at_fn 61; refine (less_at Hrow.out hsj _ _ Hv.out rfl (by omega) (by omega) (by omega)).mono ?_; rintro e w4 ⟨rfl, hr4, hf4⟩)
                            | (go_at_fn 62; refine (swap_at hr4 hsj j (j - 1) rfl (by omega) (by omega) (by omega)).mono ?_; rintro e w5 ⟨rfl, hr5, hf5⟩))
                          have HR5 : Hid (Row blk w5 (Sort.swp dj j (j - 1))) := hr5
                          have HF5 : Hid (Fr blk W w5) := (Hfr.out.trans hf4).trans hf5
                          clear hr4 hf4 hr5 hf5
                          go_roundw
                          case rel => exact ⟨j + 1, _, by go_num, by omega, by omega, (swp_size _ _ _).trans hsj, HR5.out, HF5.out, Heq2.out⟩
                          case measure => simp [intOf]; omega
                        | false =>
                          have Heq2 : Hid (dj = Sort.fixUp lt b i E) := ((shiftUp_stop lt b j dj (.inr hv)).symm.trans heq).trans HD.out.symm
                          have Hv : Hid (lt dj[j]! dj[j - 1]! = false) := hv
                          clear hv heq hrow hfr
                          go_wp2_with (go_at_fn 61; refine (less_at Hrow.out hsj _ _ Hv.out rfl (by omega) (by omega) (by omega)).mono ?_; rintro e w4 ⟨rfl, hr4, hf4⟩)
                          have HR5 : Hid (Row blk w4 dj) := hr4
                          have HF5 : Hid (Fr blk W w4) := Hfr.out.trans hf4
                          clear hr4 hf4
                          go_roundw
                          case rel => exact ⟨i, s + 1, dj, rfl, by go_num, by omega, by omega, by omega, hsj, HR5.out, HF5.out, by rw [Heq2.out, ← Heq3.out, show 5 - (s + 1) = 4 - s by omega]⟩
                          case measure => simp [intOf]; omega
                      · have hj1' : ¬ (j : Int) < (b : Int) := by omega
                        have Heq2 : Hid (dj = Sort.fixUp lt b i E) := ((shiftUp_stop lt b j dj (.inl hj1)).symm.trans heq).trans HD.out.symm
                        clear heq hrow hfr
                        go_wp2
                        go_roundw
                        case rel => exact ⟨i, s + 1, dj, rfl, by go_num, by omega, by omega, by omega, hsj, Hrow.out, Hfr.out, by rw [Heq2.out, ← Heq3.out, show 5 - (s + 1) = 4 - s by omega]⟩
                        case measure => simp [intOf]; omega
                  · have hg' : ¬ (2 : Int) ≤ (b : Int) - (i : Int) := by omega
                    have hgd : decide ((2 : Int) ≤ (b : Int) - (i : Int)) = false := decide_eq_false hg'
                    have HD : Hid (Sort.fixUp lt b i E = E) := if_neg hg
                    go_wp2
                    clear hgd hg'
                    go_roundw
                    case rel => exact ⟨i, s + 1, E, rfl, by go_num, by omega, by omega, by omega, hsE, HR6.out, HF6.out, by rw [← Heq3.out, HD.out, show 5 - (s + 1) = 4 - s by omega]⟩
                    case measure => simp [intOf]; omega
    · have hs' : ¬ (s : Int) < 5 := by omega
      have e : s = 5 := by omega
      subst e
      go_wp2
      go_ret
      have e : (dk, false) = Sort.partialInsertionSort lt d a b := heq
      rw [← e]
      exact ⟨rfl, hrow, hfr⟩
end Go.Proofs.Ybulkahag
