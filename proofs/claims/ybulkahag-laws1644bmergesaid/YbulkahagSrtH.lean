import Derived.Test.YbulkahagPdqP
import Derived.Test.YbulkahagSrtE
import Derived.Test.YbulkahagSrtG
namespace Go.Proofs.Ybulkahag
open Go.RowKit Go.Shelf
set_option linter.unusedVariables false

def PdqGives (blk n : Nat) (a0 b0 : Nat) : Prop := ∀ (lim : Nat) (d : Array Kp) (W : World), lim ≤ 64 → d.size = n → Pre a0 b0 d → Row blk W d →
  Calls Yba.prog 16 #[.iface 92 (rvOf blk n), .int .i64 a0, .int .i64 b0, .int .i64 lim] W fun e w' => e = .returned (.tuple #[]) ∧ ∃ d', Post a0 b0 d d' ∧ Row blk w' d' ∧ Fr blk W w'

theorem gives_at {blk n a b : Nat} (h : PdqGives blk n a b) {A B L : Int} (lim : Nat) (hA : A = a) (hB : B = b) (hL : L = lim) {d : Array Kp} {W : World} (hl : lim ≤ 64) (hn : d.size = n) (hp : Pre a b d) (hr : Row blk W d) :
    Calls Yba.prog 16 #[.iface 92 (rvOf blk n), .int .i64 A, .int .i64 B, .int .i64 L] W fun e w' => e = .returned (.tuple #[]) ∧ ∃ d', Post a b d d' ∧ Row blk w' d' ∧ Fr blk W w' := by
  subst hA hB hL
  exact h lim d W hl hn hp hr

set_option maxHeartbeats 8000000 in
set_option maxRecDepth 100000 in
theorem pdq_step (blk n : Nat) (h64 : n ≤ 64) (a0 b0 : Nat) (hab : a0 ≤ b0) (hb : b0 ≤ n) (ih : ∀ a b, a ≤ b → b ≤ n → b - a < b0 - a0 → PdqGives blk n a b) : PdqGives blk n a0 b0 := by
  intro lim0 d W hlim0 hn hpre hrow0
  have mL := findLess blk n
  have eL := enterLess
  have HS0 : Hid (St n a0 b0 d d a0 b0) := St.start hpre hn hab
  have HR0 : Hid (Row blk W d) := hrow0
  clear hpre hrow0
  go_enter Yba.func16, Yba.ntmps16
  go_wp2
  go_loopw [1, 2, 3, 8, 9] (fun va vb vl v8 v9 wr => ∃ (a b lim : Nat) (wb wp : Bool) (dk : Array Kp), va = .int .i64 a ∧ vb = .int .i64 b ∧ vl = .int .i64 lim ∧ v8 = .bool wb ∧ v9 = .bool wp ∧ lim ≤ 64 ∧ St n a0 b0 d dk a b ∧ Row blk wr dk ∧ Fr blk W wr) (fun va vb _ _ _ _ => (intOf vb - intOf va).toNat)
  case atStart => exact ⟨a0, b0, lim0, true, true, d, rfl, rfl, rfl, rfl, rfl, hlim0, HS0.out, HR0.out, Fr.refl _ _⟩
  case round =>
    clear HS0 HR0
    obtain ⟨a, b, lim, wb, wp, dk, rfl, rfl, rfl, rfl, rfl, hlim, hst, hrow, hfr⟩ := hrel
    have hsk := hst.size
    have h1 := hst.aa
    have h2 := hst.ab
    have h3 := hst.bb
    have HS : Hid (St n a0 b0 d dk a b) := hst
    have HR : Hid (Row blk wr dk) := hrow
    have HF : Hid (Fr blk W wr) := hfr
    clear hst hrow hfr
    by_cases hsm : b - a ≤ 12
    · have hsm' : (b : Int) - (a : Int) ≤ 12 := by omega
      have HI := Sort.insertionSort_holds (lt := lt) swo dk a b h2 (by omega)
      have HP : Hid (Post a0 b0 d (Sort.insertionSort lt dk a b)) := HS.out.fin hb HI.1 HI.2
      have hi := ins_any blk n dk hsk h64 a b h2 (by omega) wr HR.out
      clear HI HR
      go_wp2_with (go_at_call 20; refine hi.mono ?_; rintro e w1 ⟨rfl, hr1, hf1⟩)
      (try simp only [Exit.inBlock, Exit.then])
      refine bodyPost_ret (results_none rfl _ _ _) rfl ?_
      exact ⟨rfl, _, HP.out, hr1, HF.out.trans hf1⟩
    · have hsm' : ¬ (b : Int) - (a : Int) ≤ 12 := by omega
      by_cases hl0 : lim = 0
      · have HI := Sort.heapSort_holds (lt := lt) swo dk a b h2 (by omega)
        have HP : Hid (Post a0 b0 d (Sort.heapSort lt dk a b)) := HS.out.fin hb HI.1 HI.2
        have hi := heap_any blk n dk hsk h64 a b (by omega) (by omega) wr HR.out
        clear HI HR
        subst hl0
        go_wp2_with (go_at_call 21; refine hi.mono ?_; rintro e w1 ⟨rfl, hr1, hf1⟩)
        (try simp only [Exit.inBlock, Exit.then])
        refine bodyPost_ret (results_none rfl _ _ _) rfl ?_
        exact ⟨rfl, _, HP.out, hr1, HF.out.trans hf1⟩
      · have hl0' : ((lim : Int) == 0) = false := by simp; omega
        go_upto_if 35 with fail
        go_cut [3] (fun v wx => ∃ (lm : Nat) (d1 : Array Kp), v = .int .i64 lm ∧ lm ≤ 64 ∧ Sort.PermIn a b dk d1 ∧ Row blk wx d1 ∧ Fr blk W wx)
        case first =>
          cases wb with
          | true =>
            go_wp2_with fail
            go_meet
            case rel => exact ⟨lim, dk, rfl, hlim, Sort.permIn_refl _ _ _, HR.out, HF.out⟩
          | false =>
            have hi := break_any blk n dk hsk h64 a b (by omega) (by omega) wr HR.out
            clear HR
            go_wp2_with (go_at_call 22; refine hi.mono ?_; rintro e w1 ⟨rfl, d1, hp1, hr1, hf1⟩)
            go_meet
            case rel => exact ⟨lim - 1, d1, by congr 1 <;> omega, by omega, hp1, hr1, HF.out.trans hf1⟩
        case rest =>
          clear HR HF
          obtain ⟨lm, d1, rfl, hlm, hp1, hr1, hf1⟩ := hcut
          have HS1 : Hid (St n a0 b0 d d1 a b) := HS.out.step hb hp1
          have hs1 : d1.size = n := hp1.1.trans hsk
          have HR1 : Hid (Row blk wc d1) := hr1
          have HF1 : Hid (Fr blk W wc) := hf1
          clear HS hp1 hr1 hf1 hl0' hsk
          go_upto_if 50 with (go_at_call 23; refine (pivot_any blk n d1 hs1 h64 a b (by omega) (by omega) wc HR1.out).mono ?_; rintro e w2 ⟨p, hh, hp1, hp2, hhh, rfl, hr2, hf2⟩)
          have HR2 : Hid (Row blk w2 d1) := hr2
          have HF2 : Hid (Fr blk W w2) := HF1.out.trans hf2
          clear HR1 HF1 hr2 hf2
          go_cut [11, 12] (fun v u wx => ∃ (q : Nat) (gg : Int) (d2 : Array Kp), v = .int .i64 q ∧ u = .int .i64 gg ∧ a ≤ q ∧ q < b ∧ Sort.PermIn a b d1 d2 ∧ Row blk wx d2 ∧ Fr blk W wx)
          case first =>
            by_cases hdec : hh = 2
            · have hi := reverse_any blk n d1 hs1 h64 a b (by omega) (by omega) w2 HR2.out
              have HPm : Hid (Sort.PermIn a b d1 (Sort.reverseRange d1 a b)) := Sort.reverseRange_holds d1 a b h2 (by omega)
              clear HR2
              subst hdec
              go_wp2_with (go_at_call 24; refine hi.mono ?_; rintro e w3 ⟨rfl, hr3, hf3⟩)
              go_meet
              case rel => exact ⟨(b - 1) - (p - a), 1, _, by congr 1 <;> omega, rfl, by omega, by omega, HPm.out, hr3, HF2.out.trans hf3⟩
            · have hdec' : (hh == 2) = false := by simpa using hdec
              go_wp2_with fail
              go_meet
              case rel => exact ⟨p, hh, d1, rfl, rfl, hp1, hp2, Sort.permIn_refl _ _ _, HR2.out, HF2.out⟩
          case rest =>
            clear HR2 HF2 hhh hp1 hp2
            obtain ⟨q, gg, d2, rfl, rfl, hq1, hq2, hpm, hr, hf⟩ := hcut
            have HS2 : Hid (St n a0 b0 d d2 a b) := HS1.out.step hb hpm
            have hs2 : d2.size = n := hpm.1.trans hs1
            have HR2 : Hid (Row blk wc d2) := hr
            have HF2 : Hid (Fr blk W wc) := hf
            clear HS1 hpm hr hf hs1
            go_upto_region 15 with fail
            go_cut [68] (fun t wx => (∃ c : Bool, t = .bool c) ∧ wx = wc)
            case first =>
              cases wb with
              | false =>
                go_wp2_with fail
                go_meet
                case rel => exact ⟨⟨_, rfl⟩, rfl⟩
              | true =>
                cases wp with
                | false =>
                  go_wp2_with fail
                  go_meet
                  case rel => exact ⟨⟨_, rfl⟩, rfl⟩
                | true =>
                  go_wp2_with fail
                  all_goals
                    go_meet
                    case rel => exact ⟨⟨_, rfl⟩, rfl⟩
            case rest =>
              obtain ⟨⟨c, rfl⟩, rfl⟩ := hcut
              go_upto_if 68 with fail
              go_cut [11] (fun v wx => v = .int .i64 q ∧ ∃ d3 : Array Kp, Sort.PermIn a b d2 d3 ∧ Row blk wx d3 ∧ Fr blk W wx)
              case first =>
                cases c with
                | false =>
                  go_wp2_with fail
                  go_meet
                  case rel => exact ⟨rfl, d2, Sort.permIn_refl _ _ _, HR2.out, HF2.out⟩
                | true =>
                  have hi := partial_any blk n d2 hs2 h64 a b (by omega) (by omega) wc HR2.out
                  have HPi := Sort.partialInsertionSort_holds (lt := lt) swo d2 a b (by omega) (by omega) HS2.out.below
                  have HPm : Hid (Sort.PermIn a b d2 (Sort.partialInsertionSort lt d2 a b).1) := HPi.1
                  cases hres : (Sort.partialInsertionSort lt d2 a b).2 with
                  | true =>
                    have HP : Hid (Post a0 b0 d (Sort.partialInsertionSort lt d2 a b).1) := HS2.out.fin hb HPi.1 (HPi.2 hres)
                    rw [hres] at hi
                    clear HPi hres HR2
                    generalize (Sort.partialInsertionSort lt d2 a b).1 = D3 at *
                    go_wp2_with (go_at_call 25; refine hi.mono ?_; rintro e w3 ⟨rfl, hr3, hf3⟩)
                    (try simp only [Exit.inBlock, Exit.then])
                    refine bodyPost_ret (results_none rfl _ _ _) rfl ?_
                    exact ⟨rfl, _, HP.out, hr3, HF2.out.trans hf3⟩
                  | false =>
                    rw [hres] at hi
                    clear HPi hres HR2
                    generalize (Sort.partialInsertionSort lt d2 a b).1 = D3 at *
                    go_wp2_with (go_at_call 25; refine hi.mono ?_; rintro e w3 ⟨rfl, hr3, hf3⟩)
                    go_meet
                    case rel => exact ⟨rfl, D3, HPm.out, hr3, HF2.out.trans hf3⟩
              case rest =>
                clear HR2 HF2
                obtain ⟨rfl, d3, hpm, hr, hf⟩ := hcut
                have HS3 : Hid (St n a0 b0 d d3 a b) := HS2.out.step hb hpm
                have hs3 : d3.size = n := hpm.1.trans hs2
                have HR3 : Hid (Row blk wc d3) := hr
                have HF3 : Hid (Fr blk W wc) := hf
                clear HS2 hpm hr hf hs2
                go_upto_region 17 with fail
                go_cut [82] (fun t wx => t = .bool false ∧ Row blk wx d3 ∧ Fr blk W wx)
                case first =>
                  by_cases ha0 : 0 < a
                  · have ha0' : (0 : Int) < (a : Int) := by omega
                    have Hv : Hid (lt d3[a - 1]! d3[q]! = true) := HS3.out.ahead ha0 hq1 hq2
                    go_wp2_with (go_at_fn 61; refine (less_at HR3.out hs3 _ _ Hv.out (by omega) rfl (by omega) (by omega)).mono ?_; rintro e w4 ⟨rfl, hr4, hf4⟩)
                    go_meet
                    case rel => exact ⟨rfl, hr4, HF3.out.trans hf4⟩
                  · have ha0' : ¬ (0 : Int) < (a : Int) := by omega
                    go_wp2_with fail
                    go_meet
                    case rel => exact ⟨rfl, HR3.out, HF3.out⟩
                case rest =>
                  clear HR3 HF3
                  obtain ⟨rfl, hr, hf⟩ := hcut
                  have HR4 : Hid (Row blk wc d3) := hr
                  have HF4 : Hid (Fr blk W wc) := hf
                  clear hr hf
                  go_upto_region 21 with (go_at_call 27; refine (part_any blk n d3 hs3 h64 a b q hq1 hq2 (by omega) wc HR4.out).mono ?_; rintro e w5 ⟨mid, ap, d5, rfl, hpd, hr5, hf5⟩)
                  have HPd : Hid (Parted n a b d3 d5 mid) := hpd
                  have hm1 := hpd.2.1
                  have hm2 := hpd.2.2.1
                  have hs5 := hpd.1
                  have HR5 : Hid (Row blk w5 d5) := hr5
                  have HF5 : Hid (Fr blk W w5) := HF4.out.trans hf5
                  clear hpd hr5 hf5 HR4 HF4
                  by_cases hlr : mid - a < b - mid
                  · have hlr' : (mid : Int) - (a : Int) < (b : Int) - (mid : Int) := by omega
                    go_wp2_with (go_at_call 16; refine (gives_at (ih a mid (by omega) (by omega) (by omega)) lm rfl rfl rfl hlm hs5 (HS3.out.preLeft hb HPd.out) HR5.out).mono ?_; rintro e w6 ⟨rfl, d6, hpo, hr6, hf6⟩)
                    have HS6 : Hid (St n a0 b0 d d6 (mid + 1) b) := HS3.out.left hb HPd.out hpo
                    have HR6 : Hid (Row blk w6 d6) := hr6
                    have HF6 : Hid (Fr blk W w6) := HF5.out.trans hf6
                    clear hpo hr6 hf6 HR5 HF5 HS3 HPd
                    go_roundw
                    case rel => exact ⟨mid + 1, b, lm, _, ap, d6, by go_num, rfl, rfl, rfl, rfl, hlm, HS6.out, HR6.out, HF6.out⟩
                    case measure => simp [intOf]; omega
                  · have hlr' : ¬ (mid : Int) - (a : Int) < (b : Int) - (mid : Int) := by omega
                    go_wp2_with (go_at_call 16; refine (gives_at (ih (mid + 1) b (by omega) (by omega) (by omega)) lm (by omega) rfl rfl hlm hs5 (HS3.out.preRight hb HPd.out) HR5.out).mono ?_; rintro e w6 ⟨rfl, d6, hpo, hr6, hf6⟩)
                    have HS6 : Hid (St n a0 b0 d d6 a mid) := HS3.out.right hb HPd.out hpo
                    have HR6 : Hid (Row blk w6 d6) := hr6
                    have HF6 : Hid (Fr blk W w6) := HF5.out.trans hf6
                    clear hpo hr6 hf6 HR5 HF5 HS3 HPd
                    go_roundw
                    case rel => exact ⟨a, mid, lm, _, ap, d6, rfl, rfl, rfl, rfl, rfl, hlm, HS6.out, HR6.out, HF6.out⟩
                    case measure => simp [intOf]; omega

theorem pdq_any (blk n : Nat) (h64 : n ≤ 64) : ∀ (m a b : Nat), b - a < m → a ≤ b → b ≤ n → PdqGives blk n a b := by
  intro m
  induction m with
  | zero => intro a b h; omega
  | succ m ih => exact fun a b h hab hb => pdq_step blk n h64 a b hab hb fun a' b' h1 h2 h3 => ih a' b' (by omega) h1 h2

set_option maxHeartbeats 2000000 in
set_option maxRecDepth 100000 in
/-- sort.Sort over the row: the keys being distinct, a permutation in strict order -/
theorem sort_any (blk n : Nat) (h64 : n ≤ 64) (d : Array Kp) (hn : d.size = n) (hk : Keys d) (W : World) (h : Row blk W d) :
    Calls Yba.prog 12 #[.iface 92 (rvOf blk n)] W fun e w' => e = .returned (.tuple #[]) ∧ ∃ d', Post 0 n d d' ∧ Row blk w' d' ∧ Fr blk W w' := by
  have mN := findLen blk n
  have eN := enterLen
  have H : Hid (Row blk W d) := h
  have hl := len_any blk n W
  obtain ⟨s1, _⟩ := bitLen_small ⟨n, by omega⟩
  simp only at s1
  have hb := fun w => Any.bits_Len Yba.lays125 (n : Int) w (by omega) (by omega)
  change ∀ w, Calls Yba.prog 15 _ w _ at hb
  have hp : Pre 0 n d := ⟨hk, fun i j _ _ _ q => by omega⟩
  clear h
  by_cases h1 : n ≤ 1
  · have h1' : (n : Int) ≤ 1 := by omega
    go_enter Yba.func12, Yba.ntmps12
    go_wp2_with (go_at_fn 60; refine hl.mono ?_; rintro e w1 ⟨rfl, rfl⟩)
    (try simp only [Exit.inBlock, Exit.then])
    refine bodyPost_ret (results_none rfl _ _ _) rfl ?_
    exact ⟨rfl, d, ⟨Sort.permIn_refl _ _ _, fun i j _ g2 g3 _ => by omega⟩, H.out, Fr.refl _ _⟩
  · have h1' : ¬ (n : Int) ≤ 1 := by omega
    go_enter Yba.func12, Yba.ntmps12
    go_wp2_with (first
      | (go_at_fn 60; refine hl.mono ?_; rintro e w1 ⟨rfl, rfl⟩)
      | (go_at_call 15; refine (hb _).mono ?_; rintro e w1 ⟨rfl, rfl⟩)
      | (go_at_call 16; refine (gives_at (pdq_any blk n h64 (n + 1) 0 n (by omega) (by omega) (Nat.le_refl _)) (Lib.bitLen n) rfl rfl (by simp) (by omega) hn hp H.out).mono ?_; rintro e w2 ⟨rfl, d2, hpo, hr2, hf2⟩))
    go_end0
    exact ⟨rfl, d2, hpo, hr2, hf2⟩
end Go.Proofs.Ybulkahag
