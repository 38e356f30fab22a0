import Derived.Test.YbulkahagSrtB
namespace Go.Proofs.Ybulkahag
open Go.RowKit Go.Shelf
set_option linter.unusedVariables false

/-- between the two scans: what lies left of i is less than the pivot, what lies right of j is not -/
structure PI (n a b : Nat) (d dk : Array Kp) (i j : Nat) : Prop where
  size : dk.size = n
  perm : Sort.PermIn a b d dk
  ai : a < i
  ij : i ≤ j + 1
  jb : j < b
  left : ∀ t, a < t → t < i → lt dk[t]! dk[a]! = true
  right : ∀ t, j < t → t < b → lt dk[t]! dk[a]! = false

theorem PI.up {n a b i j : Nat} {d dk : Array Kp} (h : PI n a b d dk i j) (hij : i ≤ j) (hl : lt dk[i]! dk[a]! = true) : PI n a b d dk (i + 1) j :=
  ⟨h.size, h.perm, by have := h.ai; omega, by omega, h.jb, fun t h1 h2 => by
    by_cases e : t = i
    · rw [e]; exact hl
    · exact h.left t h1 (by omega), h.right⟩
theorem PI.down {n a b i j : Nat} {d dk : Array Kp} (h : PI n a b d dk i j) (hij : i ≤ j) (hl : lt dk[j]! dk[a]! = false) : PI n a b d dk i (j - 1) :=
  ⟨h.size, h.perm, h.ai, by have := h.ai; omega, by have := h.jb; omega, h.left, fun t h1 h2 => by
    by_cases e : t = j
    · rw [e]; exact hl
    · exact h.right t (by omega) h2⟩
theorem PI.swap {n a b i j : Nat} {d dk : Array Kp} (h : PI n a b d dk i j) (hb : b ≤ n) (hij : i ≤ j) (hi : lt dk[i]! dk[a]! = false) (hj : lt dk[j]! dk[a]! = true) : PI n a b d (Sort.swp dk i j) (i + 1) (j - 1) := by
  have h1 := h.ai
  have h2 := h.jb
  have h3 := h.size
  have hne : i ≠ j := by
    intro e
    rw [e, hj] at hi
    cases hi
  have ea : (Sort.swp dk i j)[a]! = dk[a]! := Sort.swp_other dk i j a (by omega) (by omega)
  refine ⟨(swp_size _ _ _).trans h3, Sort.permIn_trans _ _ _ _ _ h.perm (Sort.swp_permIn dk a b i j (by omega) (by omega) (by omega) (by omega) (by omega)), by omega, by omega, by omega, fun t g1 g2 => ?_, fun t g1 g2 => ?_⟩
  · rw [ea]
    by_cases e : t = i
    · rw [e, Sort.swp_left dk i j (by omega) hne]; exact hj
    · rw [Sort.swp_other dk i j t e (by omega)]; exact h.left t g1 (by omega)
  · rw [ea]
    by_cases e : t = j
    · rw [e, Sort.swp_right dk i j (by omega)]; exact hi
    · rw [Sort.swp_other dk i j t (by omega) e]; exact h.right t (by omega) g2

/-- what the partition leaves -/
def Parted (n a b : Nat) (d d' : Array Kp) (mid : Nat) : Prop := d'.size = n ∧ a ≤ mid ∧ mid < b ∧ Sort.PermIn a b d d' ∧ (∀ t, a ≤ t → t < mid → lt d'[t]! d'[mid]! = true) ∧ (∀ t, mid < t → t < b → lt d'[t]! d'[mid]! = false)

theorem PI.fin {n a b i j : Nat} {d dk : Array Kp} (h : PI n a b d dk i j) (hb : b ≤ n) (hij : ¬ i ≤ j) : Parted n a b d (Sort.swp dk j a) j := by
  have h1 := h.ai
  have h2 := h.jb
  have h3 := h.size
  have h4 := h.ij
  have ej : (Sort.swp dk j a)[j]! = dk[a]! := by
    by_cases e : j = a
    · subst e; exact Sort.swp_right dk j j (by omega)
    · exact Sort.swp_left dk j a (by omega) e
  refine ⟨(swp_size _ _ _).trans h3, by omega, h2, Sort.permIn_trans _ _ _ _ _ h.perm (Sort.swp_permIn dk a b j a (by omega) (by omega) (by omega) (by omega) (by omega)), fun t g1 g2 => ?_, fun t g1 g2 => ?_⟩
  · rw [ej]
    by_cases e : t = a
    · rw [e, Sort.swp_right dk j a (by omega)]; exact h.left j (by omega) (by omega)
    · rw [Sort.swp_other dk j a t (by omega) e]; exact h.left t (by omega) (by omega)
  · rw [ej, Sort.swp_other dk j a t (by omega) (by omega)]
    exact h.right t g1 g2

theorem PI.start {n a b p : Nat} {d : Array Kp} (hn : d.size = n) (h1 : a ≤ p) (h2 : p < b) (hb : b ≤ n) : PI n a b d (Sort.swp d a p) (a + 1) (b - 1) :=
  ⟨(swp_size _ _ _).trans hn, Sort.swp_permIn d a b a p (by omega) (by omega) h1 h2 (by omega), by omega, by omega, by omega, fun t g1 g2 => by omega, fun t g1 g2 => by omega⟩

theorem tf {P : Prop} (h : true = false) : P := by cases h
theorem ft {P : Prop} (h : false = true) : P := by cases h

set_option maxHeartbeats 8000000 in
set_option maxRecDepth 100000 in
theorem part_any (blk n : Nat) (d : Array Kp) (hn : d.size = n) (h64 : n ≤ 64) (a b p : Nat) (hap : a ≤ p) (hpb : p < b) (hb : b ≤ n) (W : World) (h : Row blk W d) :
    Calls Yba.prog 27 #[.iface 92 (rvOf blk n), .int .i64 a, .int .i64 b, .int .i64 p] W fun e w' => ∃ (mid : Nat) (ap : Bool) (d' : Array Kp), e = .returned (.tuple #[.int .i64 mid, .bool ap]) ∧ Parted n a b d d' mid ∧ Row blk w' d' ∧ Fr blk W w' := by
  have mL := findLess blk n
  have mS := findSwap blk n
  have eL := enterLess
  have eS := enterSwap
  have hsw := swap_any blk n d hn a p (by omega) (by omega) W h
  have HPI0 : Hid (PI n a b d (Sort.swp d a p) (a + 1) (b - 1)) := PI.start hn hap hpb hb
  clear h
  go_enter Yba.func27, Yba.ntmps27
  go_wp2_with (go_at_fn 62; refine hsw.mono ?_; rintro e w1 ⟨rfl, hr1, hf1⟩)
  have HR1 : Hid (Row blk w1 (Sort.swp d a p)) := hr1
  have HF1 : Hid (Fr blk W w1) := hf1
  clear hsw hr1 hf1
  generalize Sort.swp d a p = dk at *
  go_loopw [10] (fun vi wr => ∃ i : Nat, vi = .int .i64 i ∧ PI n a b d dk i (b - 1) ∧ Row blk wr dk ∧ Fr blk W wr) (fun vi _ => 200 - (intOf vi).toNat)
  case atStart => exact ⟨a + 1, by go_num, HPI0.out, HR1.out, HF1.out⟩
  case round =>
    clear HPI0 HR1 HF1
    obtain ⟨i, rfl, hpi, hrow, hfr⟩ := hrel
    have hi1 := hpi.ai
    have hi2 := hpi.ij
    have hsk := hpi.size
    have HPI : Hid (PI n a b d dk i (b - 1)) := hpi
    have Hrow : Hid (Row blk wr dk) := hrow
    have Hfr : Hid (Fr blk W wr) := hfr
    clear hpi hrow hfr
    go_upto_region 3 with fail
    go_cut [28] (fun t wx => ∃ c : Bool, t = .bool c ∧ (c = true → i ≤ b - 1 ∧ lt dk[i]! dk[a]! = true) ∧ (c = false → ¬ i ≤ b - 1 ∨ lt dk[i]! dk[a]! = false) ∧ Row blk wx dk ∧ Fr blk W wx)
    case first =>
      by_cases hij : i ≤ b - 1
      · have hij' : (i : Int) ≤ (b : Int) - 1 := by omega
        cases hv : lt dk[i]! dk[a]! with
        | true =>
          have Hv : Hid (lt dk[i]! dk[a]! = true) := hv
          clear hv
          go_wp2_with (go_at_fn 61; refine (less_at Hrow.out hsk _ _ Hv.out rfl rfl (by omega) (by omega)).mono ?_; rintro e w2 ⟨rfl, hr2, hf2⟩)
          go_meet
          case rel => exact ⟨true, rfl, (fun _ => ⟨hij, Hv.out⟩), tf, hr2, Hfr.out.trans hf2⟩
        | false =>
          have Hv : Hid (lt dk[i]! dk[a]! = false) := hv
          clear hv
          go_wp2_with (go_at_fn 61; refine (less_at Hrow.out hsk _ _ Hv.out rfl rfl (by omega) (by omega)).mono ?_; rintro e w2 ⟨rfl, hr2, hf2⟩)
          go_meet
          case rel => exact ⟨false, rfl, ft, (fun _ => .inr Hv.out), hr2, Hfr.out.trans hf2⟩
      · have hij' : ¬ (i : Int) ≤ (b : Int) - 1 := by omega
        go_wp2_with fail
        go_meet
        case rel => exact ⟨false, rfl, ft, (fun _ => .inl hij), Hrow.out, Hfr.out⟩
    case rest =>
      clear Hrow Hfr
      obtain ⟨c, rfl, hct, hcf, hrow, hfr⟩ := hcut
      cases c with
      | true =>
        obtain ⟨hij, hv⟩ := hct rfl
        have HPI2 : Hid (PI n a b d dk (i + 1) (b - 1)) := HPI.out.up hij hv
        have Hrow : Hid (Row blk wc dk) := hrow
        have Hfr : Hid (Fr blk W wc) := hfr
        clear hv hct hcf hrow hfr
        go_wp2
        go_roundw
        case rel => exact ⟨i + 1, by go_num, HPI2.out, Hrow.out, Hfr.out⟩
        case measure => simp [intOf]; omega
      | false =>
        have Hcf : Hid (¬ i ≤ b - 1 ∨ lt dk[i]! dk[a]! = false) := hcf rfl
        have Hrow : Hid (Row blk wc dk) := hrow
        have Hfr : Hid (Fr blk W wc) := hfr
        clear hct hcf hrow hfr
        go_wp2
        go_loopw [11] (fun vj wr => ∃ j : Nat, vj = .int .i64 j ∧ PI n a b d dk i j ∧ (¬ i ≤ j ∨ lt dk[i]! dk[a]! = false) ∧ Row blk wr dk ∧ Fr blk W wr) (fun vj _ => (intOf vj).toNat)
        case atStart => exact ⟨b - 1, by congr 1 <;> omega, HPI.out, Hcf.out, Hrow.out, Hfr.out⟩
        case round =>
          clear HPI Hcf Hrow Hfr
          obtain ⟨j, rfl, hpi, hcf, hrow, hfr⟩ := hrel
          have hj1 := hpi.ij
          have hj2 := hpi.jb
          have HPI : Hid (PI n a b d dk i j) := hpi
          have Hcf : Hid (¬ i ≤ j ∨ lt dk[i]! dk[a]! = false) := hcf
          have Hrow : Hid (Row blk wr dk) := hrow
          have Hfr : Hid (Fr blk W wr) := hfr
          clear hpi hcf hrow hfr
          go_upto_region 5 with fail
          go_cut [40] (fun t wx => ∃ c : Bool, t = .bool c ∧ (c = true → i ≤ j ∧ lt dk[j]! dk[a]! = false) ∧ (c = false → ¬ i ≤ j ∨ lt dk[j]! dk[a]! = true) ∧ Row blk wx dk ∧ Fr blk W wx)
          case first =>
            by_cases hij : i ≤ j
            · have hij' : (i : Int) ≤ (j : Int) := by omega
              cases hv : lt dk[j]! dk[a]! with
              | true =>
                have Hv : Hid (lt dk[j]! dk[a]! = true) := hv
                clear hv
                go_wp2_with (go_at_fn 61; refine (less_at Hrow.out hsk _ _ Hv.out rfl rfl (by omega) (by omega)).mono ?_; rintro e w2 ⟨rfl, hr2, hf2⟩)
                go_meet
                case rel => exact ⟨false, rfl, ft, (fun _ => .inr Hv.out), hr2, Hfr.out.trans hf2⟩
              | false =>
                have Hv : Hid (lt dk[j]! dk[a]! = false) := hv
                clear hv
                go_wp2_with (go_at_fn 61; refine (less_at Hrow.out hsk _ _ Hv.out rfl rfl (by omega) (by omega)).mono ?_; rintro e w2 ⟨rfl, hr2, hf2⟩)
                go_meet
                case rel => exact ⟨true, rfl, (fun _ => ⟨hij, Hv.out⟩), tf, hr2, Hfr.out.trans hf2⟩
            · have hij' : ¬ (i : Int) ≤ (j : Int) := by omega
              go_wp2_with fail
              go_meet
              case rel => exact ⟨false, rfl, ft, (fun _ => .inl hij), Hrow.out, Hfr.out⟩
          case rest =>
            clear Hrow Hfr
            obtain ⟨c, rfl, hct, hcf, hrow, hfr⟩ := hcut
            cases c with
            | true =>
              obtain ⟨hij, hv⟩ := hct rfl
              have HPI2 : Hid (PI n a b d dk i (j - 1)) := HPI.out.down hij hv
              have Hcf2 : Hid (¬ i ≤ j - 1 ∨ lt dk[i]! dk[a]! = false) := Hcf.out.imp (fun h => by omega) id
              have Hrow : Hid (Row blk wc dk) := hrow
              have Hfr : Hid (Fr blk W wc) := hfr
              clear hv hct hcf hrow hfr Hcf
              go_wp2
              go_roundw
              case rel => exact ⟨j - 1, by congr 1 <;> omega, HPI2.out, Hcf2.out, Hrow.out, Hfr.out⟩
              case measure => simp [intOf]; omega
            | false =>
              have Hdf : Hid (¬ i ≤ j ∨ lt dk[j]! dk[a]! = true) := hcf rfl
              have Hrow : Hid (Row blk wc dk) := hrow
              have Hfr : Hid (Fr blk W wc) := hfr
              clear hct hcf hrow hfr
              by_cases hij : i ≤ j
              · have hij' : (i : Int) ≤ (j : Int) := by omega
                have HPI2 : Hid (PI n a b d (Sort.swp dk i j) (i + 1) (j - 1)) := HPI.out.swap hb hij (Hcf.out.resolve_left (fun h => h hij)) (Hdf.out.resolve_left (fun h => h hij))
                have hsw := swap_any blk n dk hsk i j (by omega) (by omega) wc Hrow.out
                clear Hrow Hdf Hcf HPI
                go_wp2_with (go_at_fn 62; refine hsw.mono ?_; rintro e w3 ⟨rfl, hr3, hf3⟩)
                have HR : Hid (Row blk w3 (Sort.swp dk i j)) := hr3
                have HF : Hid (Fr blk W w3) := Hfr.out.trans hf3
                clear hr3 hf3 hsw Hfr
                go_loopw [10, 11] (fun vi vj wr => ∃ (i j : Nat) (dj : Array Kp), vi = .int .i64 i ∧ vj = .int .i64 j ∧ PI n a b d dj i j ∧ Row blk wr dj ∧ Fr blk W wr) (fun vi vj _ => (intOf vj + 1 - intOf vi).toNat)
                case atStart => exact ⟨i + 1, j - 1, _, by go_num, by congr 1 <;> omega, HPI2.out, HR.out, HF.out⟩
                case round =>
                  clear HPI2 HR HF
                  clear hj1 hj2 hi1 hi2 hij hij'
                  clear hsk
                  obtain ⟨i0, j0, dj, rfl, rfl, hpi, hrow, hfr⟩ := hrel
                  have hsj := hpi.size
                  have hjb0 := hpi.jb
                  have HPI0 : Hid (PI n a b d dj i0 j0) := hpi
                  have HR0 : Hid (Row blk wr dj) := hrow
                  have HF0 : Hid (Fr blk W wr) := hfr
                  clear hpi hrow hfr
                  go_wp2
                  go_loopw [10] (fun vi wr => ∃ i : Nat, vi = .int .i64 i ∧ i0 ≤ i ∧ PI n a b d dj i j0 ∧ Row blk wr dj ∧ Fr blk W wr) (fun vi _ => 200 - (intOf vi).toNat)
                  case atStart => exact ⟨i0, rfl, Nat.le_refl _, HPI0.out, HR0.out, HF0.out⟩
                  case round =>
                    clear HPI0 HR0 HF0
                    obtain ⟨i, rfl, hi0, hpi, hrow, hfr⟩ := hrel
                    have hi1 := hpi.ai
                    have hi2 := hpi.ij
                    have HPI : Hid (PI n a b d dj i j0) := hpi
                    have Hrow : Hid (Row blk wr dj) := hrow
                    have Hfr : Hid (Fr blk W wr) := hfr
                    clear hpi hrow hfr
                    go_upto_region 13 with fail
                    go_cut [67] (fun t wx => ∃ c : Bool, t = .bool c ∧ (c = true → i ≤ j0 ∧ lt dj[i]! dj[a]! = true) ∧ (c = false → ¬ i ≤ j0 ∨ lt dj[i]! dj[a]! = false) ∧ Row blk wx dj ∧ Fr blk W wx)
                    case first =>
                      by_cases hij : i ≤ j0
                      · have hij' : (i : Int) ≤ (j0 : Int) := by omega
                        cases hv : lt dj[i]! dj[a]! with
                        | true =>
                          have Hv : Hid (lt dj[i]! dj[a]! = true) := hv
                          clear hv
                          go_wp2_with (go_at_fn 61; refine (less_at Hrow.out hsj _ _ Hv.out rfl rfl (by omega) (by omega)).mono ?_; rintro e w2 ⟨rfl, hr2, hf2⟩)
                          go_meet
                          case rel => exact ⟨true, rfl, (fun _ => ⟨hij, Hv.out⟩), tf, hr2, Hfr.out.trans hf2⟩
                        | false =>
                          have Hv : Hid (lt dj[i]! dj[a]! = false) := hv
                          clear hv
                          go_wp2_with (go_at_fn 61; refine (less_at Hrow.out hsj _ _ Hv.out rfl rfl (by omega) (by omega)).mono ?_; rintro e w2 ⟨rfl, hr2, hf2⟩)
                          go_meet
                          case rel => exact ⟨false, rfl, ft, (fun _ => .inr Hv.out), hr2, Hfr.out.trans hf2⟩
                      · have hij' : ¬ (i : Int) ≤ (j0 : Int) := by omega
                        go_wp2_with fail
                        go_meet
                        case rel => exact ⟨false, rfl, ft, (fun _ => .inl hij), Hrow.out, Hfr.out⟩
                    case rest =>
                      clear Hrow Hfr
                      obtain ⟨c, rfl, hct, hcf, hrow, hfr⟩ := hcut
                      cases c with
                      | true =>
                        obtain ⟨hij, hv⟩ := hct rfl
                        have HPI2 : Hid (PI n a b d dj (i + 1) j0) := HPI.out.up hij hv
                        have Hrow : Hid (Row blk wc dj) := hrow
                        have Hfr : Hid (Fr blk W wc) := hfr
                        clear hv hct hcf hrow hfr
                        go_wp2
                        go_roundw
                        case rel => exact ⟨i + 1, by go_num, by omega, HPI2.out, Hrow.out, Hfr.out⟩
                        case measure => simp [intOf]; omega
                      | false =>
                        have Hcf : Hid (¬ i ≤ j0 ∨ lt dj[i]! dj[a]! = false) := hcf rfl
                        have Hrow : Hid (Row blk wc dj) := hrow
                        have Hfr : Hid (Fr blk W wc) := hfr
                        clear hct hcf hrow hfr
                        go_wp2
                        go_loopw [11] (fun vj wr => ∃ j : Nat, vj = .int .i64 j ∧ j ≤ j0 ∧ PI n a b d dj i j ∧ (¬ i ≤ j ∨ lt dj[i]! dj[a]! = false) ∧ Row blk wr dj ∧ Fr blk W wr) (fun vj _ => (intOf vj).toNat)
                        case atStart => exact ⟨j0, rfl, Nat.le_refl _, HPI.out, Hcf.out, Hrow.out, Hfr.out⟩
                        case round =>
                          clear HPI Hcf Hrow Hfr
                          obtain ⟨j, rfl, hj0, hpi, hcf, hrow, hfr⟩ := hrel
                          have hj1 := hpi.ij
                          have hj2 := hpi.jb
                          have HPI : Hid (PI n a b d dj i j) := hpi
                          have Hcf : Hid (¬ i ≤ j ∨ lt dj[i]! dj[a]! = false) := hcf
                          have Hrow : Hid (Row blk wr dj) := hrow
                          have Hfr : Hid (Fr blk W wr) := hfr
                          clear hpi hcf hrow hfr
                          go_upto_region 15 with fail
                          go_cut [79] (fun t wx => ∃ c : Bool, t = .bool c ∧ (c = true → i ≤ j ∧ lt dj[j]! dj[a]! = false) ∧ (c = false → ¬ i ≤ j ∨ lt dj[j]! dj[a]! = true) ∧ Row blk wx dj ∧ Fr blk W wx)
                          case first =>
                            by_cases hij : i ≤ j
                            · have hij' : (i : Int) ≤ (j : Int) := by omega
                              cases hv : lt dj[j]! dj[a]! with
                              | true =>
                                have Hv : Hid (lt dj[j]! dj[a]! = true) := hv
                                clear hv
                                go_wp2_with (go_at_fn 61; refine (less_at Hrow.out hsj _ _ Hv.out rfl rfl (by omega) (by omega)).mono ?_; rintro e w2 ⟨rfl, hr2, hf2⟩)
                                go_meet
                                case rel => exact ⟨false, rfl, ft, (fun _ => .inr Hv.out), hr2, Hfr.out.trans hf2⟩
                              | false =>
                                have Hv : Hid (lt dj[j]! dj[a]! = false) := hv
                                clear hv
                                go_wp2_with (go_at_fn 61; refine (less_at Hrow.out hsj _ _ Hv.out rfl rfl (by omega) (by omega)).mono ?_; rintro e w2 ⟨rfl, hr2, hf2⟩)
                                go_meet
                                case rel => exact ⟨true, rfl, (fun _ => ⟨hij, Hv.out⟩), tf, hr2, Hfr.out.trans hf2⟩
                            · have hij' : ¬ (i : Int) ≤ (j : Int) := by omega
                              go_wp2_with fail
                              go_meet
                              case rel => exact ⟨false, rfl, ft, (fun _ => .inl hij), Hrow.out, Hfr.out⟩
                          case rest =>
                            clear Hrow Hfr
                            obtain ⟨c, rfl, hct, hcf, hrow, hfr⟩ := hcut
                            cases c with
                            | true =>
                              obtain ⟨hij, hv⟩ := hct rfl
                              have HPI2 : Hid (PI n a b d dj i (j - 1)) := HPI.out.down hij hv
                              have Hcf2 : Hid (¬ i ≤ j - 1 ∨ lt dj[i]! dj[a]! = false) := Hcf.out.imp (fun h => by omega) id
                              have Hrow : Hid (Row blk wc dj) := hrow
                              have Hfr : Hid (Fr blk W wc) := hfr
                              clear hv hct hcf hrow hfr Hcf
                              go_wp2
                              go_roundw
                              case rel => exact ⟨j - 1, by congr 1 <;> omega, by omega, HPI2.out, Hcf2.out, Hrow.out, Hfr.out⟩
                              case measure => simp [intOf]; omega
                            | false =>
                              have Hdf : Hid (¬ i ≤ j ∨ lt dj[j]! dj[a]! = true) := hcf rfl
                              have Hrow : Hid (Row blk wc dj) := hrow
                              have Hfr : Hid (Fr blk W wc) := hfr
                              clear hct hcf hrow hfr
                              by_cases hij : i ≤ j
                              · have hij' : (i : Int) ≤ (j : Int) := by omega
                                have HPI2 : Hid (PI n a b d (Sort.swp dj i j) (i + 1) (j - 1)) := HPI.out.swap hb hij (Hcf.out.resolve_left (fun h => h hij)) (Hdf.out.resolve_left (fun h => h hij))
                                have hsw := swap_any blk n dj hsj i j (by omega) (by omega) wc Hrow.out
                                clear Hrow Hdf Hcf HPI
                                go_wp2_with (go_at_fn 62; refine hsw.mono ?_; rintro e w3 ⟨rfl, hr3, hf3⟩)
                                have HR : Hid (Row blk w3 (Sort.swp dj i j)) := hr3
                                have HF : Hid (Fr blk W w3) := Hfr.out.trans hf3
                                clear hr3 hf3 hsw Hfr
                                go_roundw
                                case rel => exact ⟨i + 1, j - 1, _, by go_num, by congr 1 <;> omega, HPI2.out, HR.out, HF.out⟩
                                case measure => simp [intOf]; omega
                              · have hij' : ¬ (i : Int) ≤ (j : Int) := by omega
                                have HP : Hid (Parted n a b d (Sort.swp dj j a) j) := HPI.out.fin hb hij
                                have hsw := swap_any blk n dj hsj j a (by omega) (by omega) wc Hrow.out
                                clear Hrow Hdf Hcf HPI
                                go_wp2_with (go_at_fn 62; refine hsw.mono ?_; rintro e w3 ⟨rfl, hr3, hf3⟩)
                                go_ret2
                                exact ⟨j, false, _, rfl, HP.out, hr3, Hfr.out.trans hf3⟩
              · have hij' : ¬ (i : Int) ≤ (j : Int) := by omega
                have HP : Hid (Parted n a b d (Sort.swp dk j a) j) := HPI.out.fin hb hij
                have hsw := swap_any blk n dk hsk j a (by omega) (by omega) wc Hrow.out
                clear Hrow Hdf Hcf HPI
                go_wp2_with (go_at_fn 62; refine hsw.mono ?_; rintro e w3 ⟨rfl, hr3, hf3⟩)
                go_ret2
                exact ⟨j, true, _, rfl, HP.out, hr3, Hfr.out.trans hf3⟩
end Go.Proofs.Ybulkahag
