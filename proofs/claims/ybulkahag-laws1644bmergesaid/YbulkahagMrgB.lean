import Derived.Test.YbulkahagMrgA
namespace Go.Proofs.Ybulkahag
open Go.RowKit Go.Maps
set_option linter.unusedVariables false

def fb (st : Int) (k : Nat) : Kp := (ky st k, (k : Int) + 100)
def fs (st : Int) (pl : Nat → Int) (k : Nat) : Kp := (ky st k, pl k)

/-- the map of the set: nil where nothing is set, or one that holds what is set -/
def SetIs (w : World) (lo : Nat) (st sm : Int) (pl : Nat → Int) (v : Value) : Prop :=
  (v = .map none ∧ ∀ k, k < 64 → bit sm k = false) ∨ ∃ mb nn D, v = .map (some mb) ∧ lo ≤ mb ∧ nn ≤ 64 ∧ w.ownsMap Yba.prog 21 (plainElem Yba.prog 21) mb nn D ∧ MapIs st (bit sm) pl 64 D

theorem bit_zero (k : Nat) : bit 0 k = false := by
  unfold bit
  rw [Int.zero_ediv]
  decide

theorem row_grown {w w' : World} {base n mb : Nat} {v : Value} {xs : List Value} (h : w.ownsRow base 84 2 v n xs) (hg : w.grownBy w' (some mb)) (hv : ∀ g, v.ownBlock = some g → g < mb) : w'.ownsRow base 84 2 v n xs := by
  refine h.kept hg ?_
  by_cases e : v.ownBlock = none
  · exact .inl e
  · exact .inr fun e' => by have := hv mb e'; omega

theorem below_grown' {w w' : World} {base : Nat} {v : Value} (hg : w.grownBy w' v.ownBlock) (hv : ∀ k, v.ownBlock = some k → base ≤ k) (hb : base ≤ w.heap.size) : Below base w w' :=
  ⟨hg.os, hg.tape, hg.output, hg.size, fun j hj => hg.block j (by omega) (fun e => by have := hv j e.symm; omega)⟩

theorem below_map {w a b : World} {mb : Nat} (h : Below w.heap.size w a) (hg : a.grownBy b (some mb)) (hm : w.heap.size ≤ mb) : Below w.heap.size w b :=
  h.trans ⟨hg.os, hg.tape, hg.output, hg.size, fun j hj => hg.block j (by have := h.size; omega) (by simp; omega)⟩

theorem mapIs_none (st : Int) (sb : Nat → Bool) (pl : Nat → Int) (h : ∀ k, k < 64 → sb k = false) : MapIs st sb pl 64 (.map []) := by
  have : ∀ k, k ≤ 64 → MapIs st sb pl k (.map []) := by
    intro k
    induction k with
    | zero => exact fun _ => MapIs.start st sb pl
    | succ k ih => exact fun hk => (ih (by omega)).skip (h k (by omega))
  exact this 64 (Nat.le_refl _)

set_option maxHeartbeats 4000000 in
set_option maxRecDepth 100000 in
theorem build_any (bm sm st : Int) (em : Bool) (h1 : 1 ≤ st) (h2 : st ≤ 256) (b0 : 0 ≤ bm) (b1 : bm < 18446744073709551616) (s0 : 0 ≤ sm) (s1 : sm < 18446744073709551616) (ao : Option Addr) (len cap : Nat) (pl : Nat → Int) (w : World) (hpl : Pl w ao len pl) :
    Calls Yba.prog 8 #[.int .u64 bm, .int .u64 sm, .int .i32 st, .slice ao len cap, .bool em] w fun e w' => ∃ vb vm, e = .returned (.tuple #[vb, vm]) ∧
      w'.ownsRow w.heap.size 84 2 vb (ent (bit bm) (fb st) 0 64).length (cellsOf (ent (bit bm) (fb st) 0 64)) ∧ SetIs w' w.heap.size st sm pl vm ∧ Below w.heap.size w w' := by
  obtain ⟨i0, hi, hz0, hz1, hz2⟩ := info_parts info84
  have hmm := @run_makeMap Yba.prog
  have HPl : Hid (Pl w ao len pl) := hpl
  clear hpl
  go_enter Yba.func8, Yba.ntmps8
  go_wp2
  go_loopw [12, 13] (fun v i wr => ∃ k : Nat, k ≤ 64 ∧ i = .int .i64 k ∧ wr.ownsRow w.heap.size 84 2 v (ent (bit bm) (fb st) 0 k).length (cellsOf (ent (bit bm) (fb st) 0 k)) ∧ Below w.heap.size w wr) (fun _ i _ => 64 - (intOf i).toNat)
  case atStart => exact ⟨0, by omega, rfl, World.ownsRow_nil _ _ _ _, Below.refl _ _⟩
  case round =>
    obtain ⟨k, hk, rfl, hrow, hnx⟩ := hrel
    by_cases hlt : k < 64
    · have hlt' : (k : Int) < 64 := by omega
      have Hrow : Hid (wr.ownsRow w.heap.size 84 2 _ (ent (bit bm) (fb st) 0 k).length (cellsOf (ent (bit bm) (fb st) 0 k))) := hrow
      have Hnx : Hid (Below w.heap.size w wr) := hnx
      have hsz := hnx.size
      have hle := ent_length (bit bm) (fb st) 0 k
      clear hrow hnx
      go_wp2_with (at_builtin; refine wpList_append_own _ rfl _ _ 56 rfl w.heap.size 84 i0 _ 2 8 Yba.underlying56 hi hz0 hz1 hz2 rfl (by decide) _ _ _ rfl (Hrow.out.alloc _) ⟨wr.heap.size, 0, none⟩ 1 1 [.int .i32 (ky st k), .int .i32 ((k : Int) + 100)] rfl rfl (two_new _ _ _ _) (fun x hx => by simp at hx; rcases hx with rfl | rfl <;> rfl) (by unfold maxLen; omega) (by omega) (by simp; omega) ?_; intro v' w3 hown' hgrow3 hnil3)
      · have hb : bit bm k = true := by assumption
        have e : ent (bit bm) (fb st) 0 (k + 1) = ent (bit bm) (fb st) 0 k ++ [fb st k] := by rw [ent_snoc, hb]; rfl
        have HR : Hid (w3.ownsRow w.heap.size 84 2 v' (ent (bit bm) (fb st) 0 (k + 1)).length (cellsOf (ent (bit bm) (fb st) 0 (k + 1)))) := by
          show w3.ownsRow w.heap.size 84 2 v' (ent (bit bm) (fb st) 0 (k + 1)).length (cellsOf (ent (bit bm) (fb st) 0 (k + 1)))
          rw [e, cellsOf_append, List.length_append]
          exact hown'
        have HB : Hid (Below w.heap.size w w3) := (Hnx.out.alloc hsz _).trans (below_grown' hgrow3 (fun j hj => (Hrow.out.lt j hj).1) (by simp; omega))
        clear hown' hgrow3 hnil3
        go_roundw
        case rel => exact ⟨k + 1, by omega, by go_num, HR.out, HB.out⟩
        case measure => simp [intOf]; omega
      · have hb : bit bm k = false := by assumption
        have e : ent (bit bm) (fb st) 0 (k + 1) = ent (bit bm) (fb st) 0 k := by rw [ent_snoc, hb]; simp
        go_roundw
        case rel => exact ⟨k + 1, by omega, by go_num, by rw [e]; exact Hrow.out, Hnx.out⟩
        case measure => simp [intOf]; omega
    · obtain rfl : k = 64 := by omega
      have Hrow : Hid (wr.ownsRow w.heap.size 84 2 _ (ent (bit bm) (fb st) 0 64).length (cellsOf (ent (bit bm) (fb st) 0 64))) := hrow
      have Hnx : Hid (Below w.heap.size w wr) := hnx
      have hsz := hnx.size
      clear hrow hnx
      have hvl : ∀ g, Value.ownBlock _ = some g → g < wr.heap.size := fun g hg => (Hrow.out.lt g hg).2
      have Hvl : Hid _ := hvl
      clear hvl
      by_cases hs : sm = 0
      · subst hs
        have hz : bits .and .u64 0 1 = 0 := by decide
        cases em with
        | false =>
          go_wp2
          go_loopw [15] (fun i wx => ∃ k : Nat, k ≤ 64 ∧ i = .int .i64 k ∧ wx = wr) (fun i _ => 64 - (intOf i).toNat)
          case atStart => exact ⟨0, by omega, rfl, rfl⟩
          case round =>
            obtain ⟨k, hk, rfl, rfl⟩ := hrel
            by_cases hlt : k < 64
            · have hlt' : (k : Int) < 64 := by omega
              go_wp2
              go_roundw
              case rel => exact ⟨k + 1, by omega, by go_num, by first | rfl | trivial⟩
              case measure => simp [intOf]; omega
            · obtain rfl : k = 64 := by omega
              go_wp2
              go_ret2
              exact ⟨_, _, rfl, Hrow.out, .inl ⟨rfl, fun k _ => bit_zero k⟩, Hnx.out⟩
        | true =>
          go_wp2
          go_loopw [15] (fun i wx => ∃ k : Nat, k ≤ 64 ∧ i = .int .i64 k ∧ wx = wr.alloc (.map #[] 0)) (fun i _ => 64 - (intOf i).toNat)
          case atStart => exact ⟨0, by omega, rfl, rfl⟩
          case round =>
            obtain ⟨k, hk, rfl, rfl⟩ := hrel
            by_cases hlt : k < 64
            · have hlt' : (k : Int) < 64 := by omega
              go_wp2
              go_roundw
              case rel => exact ⟨k + 1, by omega, by go_num, by first | rfl | trivial⟩
              case measure => simp [intOf]; omega
            · obtain rfl : k = 64 := by omega
              go_wp2
              go_ret2
              exact ⟨_, _, rfl, Hrow.out.alloc _, .inr ⟨wr.heap.size, 0, .map [], rfl, hsz, by omega, World.ownsMap_made wr Yba.prog 21 _, mapIs_none st _ pl fun k _ => bit_zero k⟩, Hnx.out.alloc hsz _⟩
      · have hs' : (sm == 0) = false := by simpa using hs
        go_wp2
        go_loopw [15] (fun i wx => ∃ (k nn : Nat) (D : DataW Unit), k ≤ 64 ∧ nn ≤ k ∧ i = .int .i64 k ∧ wx.ownsMap Yba.prog 21 (plainElem Yba.prog 21) wr.heap.size nn D ∧ MapIs st (bit sm) pl k D ∧ wx.ownsRow w.heap.size 84 2 _ (ent (bit bm) (fb st) 0 64).length (cellsOf (ent (bit bm) (fb st) 0 64)) ∧ Below w.heap.size w wx) (fun i _ => 64 - (intOf i).toNat)
        case atStart => exact ⟨0, 0, .map [], by omega, by omega, rfl, World.ownsMap_made wr Yba.prog 21 _, MapIs.start st _ pl, Hrow.out.alloc _, Hnx.out.alloc hsz _⟩
        case round =>
          clear Hrow Hnx
          obtain ⟨k, nn, D, hk, hnn, rfl, hown, hmi, hrow, hnx⟩ := hrel
          by_cases hlt : k < 64
          · have hlt' : (k : Int) < 64 := by omega
            have Hown : Hid _ := hown
            have Hmi : Hid (MapIs st (bit sm) pl k D) := hmi
            have Hrow : Hid _ := hrow
            have Hnx : Hid _ := hnx
            have HPk := HPl.out.kept hnx
            have hplc := place_any ao len cap pl k hlt
            have HPk2 : Hid _ := HPk
            have hpw := HPl.out.wf k hlt
            clear hown hmi hrow hnx HPk
            go_wp2_with (first
              | (go_at_call 10; refine (hplc _ HPk2.out).mono ?_; rintro e w1 ⟨rfl, rfl⟩)
              | (at_mapUpdate; refine wpList_mapUpdate_own _ rfl _ _ _ 57 rfl 21 21 keyed21 Yba.underlying57 _ wr.heap.size nn D rfl Hown.out (by unfold maxLen; omega) _ _ (.int .i32 (ky st k)) rfl rfl (keyOf_int_mk Yba.underlying21 (ky_wf h1 h2 hlt)) _ [] (plainElem_int Yba.underlying21 hpw) ?_; intro w2 hown2 hg2))
            · have hb : bit sm k = true := by assumption
              have HM : Hid (MapIs st (bit sm) pl (k + 1) _) := Hmi.out.put h1 h2 hlt hb
              have HR : Hid _ := row_grown Hrow.out hg2 Hvl.out
              have HB : Hid (Below w.heap.size w w2) := below_map Hnx.out hg2 hsz
              have HO : Hid _ := hown2
              clear hown2 hg2
              go_roundw
              case rel => exact ⟨k + 1, nn + 1, _, by omega, by omega, by go_num, HO.out, HM.out, HR.out, HB.out⟩
              case measure => simp [intOf]; omega
            · have hb : bit sm k = false := by assumption
              have HM : Hid (MapIs st (bit sm) pl (k + 1) D) := Hmi.out.skip hb
              go_roundw
              case rel => exact ⟨k + 1, nn, D, by omega, by omega, by go_num, Hown.out, HM.out, Hrow.out, Hnx.out⟩
              case measure => simp [intOf]; omega
          · obtain rfl : k = 64 := by omega
            go_wp2
            go_ret2
            exact ⟨_, _, rfl, hrow, .inr ⟨_, nn, D, rfl, hsz, hnn, hown, hmi⟩, hnx⟩
end Go.Proofs.Ybulkahag
