import Derived.Test.YbulkahagKey
import Derived.Deep.DeepCutAuto
import Derived.Deep.CutBlock
namespace Go.Proofs.Ybulkahag
open Go.RowKit
set_option linter.unusedVariables false

/-- the type that an entry names -/
def tyOf (sel : Int) : ByteArray := if sel % 3 = 0 then sMember else if sel % 3 = 1 then ⟨#[109, 46, 114, 111, 111, 109, 46, 106, 111, 105, 110, 95, 114, 117, 108, 101, 115]⟩ else ⟨#[109, 46, 114, 111, 111, 109, 46, 99, 114, 101, 97, 116, 101]⟩

theorem type_any (sel : Int) (h0 : 0 ≤ sel) (h1 : sel ≤ 255) (w : World) : Calls Yba.prog 6 #[.int .u8 sel] w fun e w' => e = .returned (.string (tyOf sel)) ∧ w' = w := by
  unfold tyOf sMember
  by_cases a : sel % 3 = 0
  · go_enter Yba.func6, Yba.ntmps6
    go_wp2
    go_ret
    exact ⟨rfl, rfl⟩
  · by_cases b : sel % 3 = 1
    · go_enter Yba.func6, Yba.ntmps6
      go_wp2
      go_ret
      exact ⟨rfl, rfl⟩
    · go_enter Yba.func6, Yba.ntmps6
      go_wp2
      go_ret
      exact ⟨rfl, rfl⟩

theorem tyOf_size (sel : Int) : (tyOf sel).size ≤ maxLen := by
  unfold tyOf sMember maxLen
  split
  · decide
  · split <;> decide

/-- the cells of the entries -/
def Ents (w : World) (b off len : Nat) : Prop := ∀ k, k < len → ∃ (sel : Int) (key mem : ByteArray) (kind num : Int), 0 ≤ sel ∧ sel ≤ 255 ∧ 0 ≤ kind ∧ kind ≤ 255 ∧ key.size ≤ maxLen ∧ mem.size ≤ maxLen ∧
  w.cell? ⟨b, off + k * 5, none⟩ = some (.int .u8 sel) ∧ w.cell? ⟨b, off + k * 5 + 1, none⟩ = some (.string key) ∧ w.cell? ⟨b, off + k * 5 + 2, none⟩ = some (.string mem) ∧ w.cell? ⟨b, off + k * 5 + 3, none⟩ = some (.int .u8 kind) ∧ w.cell? ⟨b, off + k * 5 + 4, none⟩ = some (.int .i64 num)

theorem str_eq {a b : ByteArray} (h : a.toList = b.toList) : a = b := by
  rw [ByteArray.toList_eq, ByteArray.toList_eq] at h
  obtain ⟨⟨x⟩⟩ := a
  obtain ⟨⟨y⟩⟩ := b
  simp at h
  rw [h]

/-- the map's block holds no cell -/
theorem cell_map {w : World} {mb n : Nat} {D : DataW Value} (h : w.ownsMap Yba.prog 51 R mb n D) {a : Addr} {v : Value} (hc : w.cell? a = some v) : a.block ≠ mb := by
  intro e
  obtain ⟨es, cl, hb, _⟩ := h
  subst e
  simp [World.cell?, hb] at hc

theorem cells_kept {w w' : World} {mb n : Nat} {D : DataW Value} (h : w.ownsMap Yba.prog 51 R mb n D) (hg : w.grownBy w' (some mb)) : ∀ a v, w.cell? a = some v → w'.cell? a = some v :=
  fun a v hc => hg.cell hc (by have := cell_map h hc; simpa using this)

theorem below_round {w wr wc w1 : World} {n : Nat} {D : DataW Value} (h1 : Below w.heap.size w wr) (h2 : Below wr.heap.size wr wc) (hg : wc.grownBy w1 (some w.heap.size)) : Below w.heap.size w w1 := by
  refine (h1.trans (h2.mono h1.size)).trans ⟨hg.os, hg.tape, hg.output, hg.size, fun j hj => hg.block j ?_ ?_⟩
  · have := h1.size; have := h2.size; omega
  · simp; omega

theorem cellE (w : World) (o : Obj) (E C : Array Value) (t t' j : Nat) : (((w.alloc o).alloc (.cells E t)).alloc (.cells C t')).cell? ⟨w.heap.size + 1, j, none⟩ = E[j]? := by
  have h : (((w.alloc o).alloc (.cells E t)).alloc (.cells C t')).heap[w.heap.size + 1]? = some (.cells E t (0, 0)) := by
    rw [Below.heap_alloc _ _ _ (by simp)]
    have := heap_alloc_new (w.alloc o) (.cells E t)
    simpa using this
  exact cell_of_row _ _ _ _ _ _ h
theorem cellC (w : World) (o : Obj) (E C : Array Value) (t t' j : Nat) : (((w.alloc o).alloc (.cells E t)).alloc (.cells C t')).cell? ⟨w.heap.size + 1 + 1, j, none⟩ = C[j]? := by
  have h : (((w.alloc o).alloc (.cells E t)).alloc (.cells C t')).heap[w.heap.size + 1 + 1]? = some (.cells C t' (0, 0)) := by
    have := heap_alloc_new ((w.alloc o).alloc (.cells E t)) (.cells C t')
    simpa using this
  exact cell_of_row _ _ _ _ _ _ h

theorem sMember_list : sMember.toList = [109, 46, 114, 111, 111, 109, 46, 109, 101, 109, 98, 101, 114] := by rw [ByteArray.toList_eq]; rfl

theorem rel_hit {user ty kk : ByteArray} {ku kl : Lit} {mb n : Nat} {D : DataW Value} {p : Value} {gs : ByteArray} {wc w1 : World}
    (hku : keyOf Yba.prog 51 (.agg #[.string sMember, .string user]) = some ku) (hkl : keyOf Yba.prog 51 (.agg #[.string ty, .string kk]) = some kl)
    (ht : ty.toList = [109, 46, 114, 111, 111, 109, 46, 109, 101, 109, 98, 101, 114]) (hk : (kk.toList == user.toList) = true)
    (hown1 : w1.ownsMap Yba.prog 51 R mb (n + 1) (D.put kl (.held p))) (hg : wc.grownBy w1 (some mb)) (hev : Ev wc p gs) (hown : wc.ownsMap Yba.prog 51 R mb n D) :
    w1.ownsMap Yba.prog 51 R mb (n + 1) (D.put kl (.held p)) ∧ (D.put kl (.held p)).atKey ku (.held (.pointer none)) = .held p ∧ Ev w1 p gs := by
  have e1 : ty = sMember := str_eq (by rw [ht, sMember_list])
  have e2 : kk = user := str_eq (by simpa using hk)
  subst e1 e2
  have e3 : kl = ku := Option.some.inj (hkl.symm.trans hku)
  subst e3
  exact ⟨hown1, Maps.atKey_put_same hown.isMap (keyed51.key hku) _ _, hev.kept (cells_kept hown hg)⟩

theorem rel_miss {user ty kk : ByteArray} {ku kl : Lit} {mb n : Nat} {D : DataW Value} {p pv : Value} {ws : ByteArray} {wr wc w1 : World}
    (hku : keyOf Yba.prog 51 (.agg #[.string sMember, .string user]) = some ku) (hkl : keyOf Yba.prog 51 (.agg #[.string ty, .string kk]) = some kl)
    (hne : ¬ (ty.toList = [109, 46, 114, 111, 111, 109, 46, 109, 101, 109, 98, 101, 114] ∧ kk.toList = user.toList))
    (hown1 : w1.ownsMap Yba.prog 51 R mb (n + 1) (D.put kl (.held p))) (hg : wc.grownBy w1 (some mb)) (hb : Below wr.heap.size wr wc) (hat : D.atKey ku (.held (.pointer none)) = .held pv) (hev : Ev wr pv ws) (hown : wc.ownsMap Yba.prog 51 R mb n D) :
    w1.ownsMap Yba.prog 51 R mb (n + 1) (D.put kl (.held p)) ∧ (D.put kl (.held p)).atKey ku (.held (.pointer none)) = .held pv ∧ Ev w1 pv ws := by
  have e3 : ku ≠ kl := by
    intro e
    subst e
    have := keyed51.inj hku hkl
    simp only [Value.agg.injEq, Array.mk.injEq, List.cons.injEq, Value.string.injEq, and_true] at this
    obtain ⟨rfl, rfl⟩ := this
    exact hne ⟨sMember_list, rfl⟩
  refine ⟨hown1, by rw [Maps.atKey_put_other e3]; exact hat, (hev.kept ?_).kept (cells_kept hown hg)⟩
  intro a v hc
  exact (hb.cell (World.block_lt_of_cell? wr a hc)).trans hc

set_option maxHeartbeats 2000000 in
set_option maxRecDepth 100000 in
theorem walkMem (user : ByteArray) (hu : user.size ≤ maxLen) (b off len cap : Nat) (w : World) (hlen : len ≤ 1024) (hents : Ents w b off len) :
    Calls Yba.prog 3 #[.string user, .slice (some ⟨b, off, none⟩) len cap] w fun e w' => e = .returned (.bool true) ∧ Below w.heap.size w w' := by
  obtain ⟨ku, hku⟩ := keyOf51 sMember user (by unfold sMember maxLen; decide) hu
  have hmm := @run_makeMap Yba.prog
  have hlen' : (len : Int) ≤ 1024 := by omega
  have hdl : decide ((1024 : Int) < (len : Int)) = false := decide_eq_false (by omega)
  go_enter Yba.func3, Yba.ntmps3
  go_wp2
  go_loopw [6, 7] (fun v i wr => ∃ (k : Nat) (D : DataW Value) (pv : Value) (ws : ByteArray), k ≤ len ∧ i = .int .i64 k ∧ v = .string ws ∧ wr.ownsMap Yba.prog 51 R w.heap.size k D ∧ D.atKey ku (.held (.pointer none)) = .held pv ∧ Ev wr pv ws ∧ Below w.heap.size w wr) (fun _ i _ => len - (intOf i).toNat)
  case atStart => exact ⟨0, .map [], .pointer none, ⟨#[]⟩, Nat.zero_le _, rfl, rfl, World.ownsMap_made w Yba.prog 51 R, rfl, .inl ⟨rfl, rfl⟩, (Below.refl _ _).alloc (Nat.le_refl _) _⟩
  case round =>
    obtain ⟨k, D, pv, ws, hk, rfl, rfl, hown, hat, hev, hnx⟩ := hrel
    by_cases hlt : k < len
    · have hlt' : (k : Int) < (len : Int) := by omega
      obtain ⟨sel, key, mem, kind, num, s0, s1, k0, k1, hks, hms, c0, c1, c2, c3, c4⟩ := hents k hlt
      have lb : b < w.heap.size := World.block_lt_of_cell? w _ c0
      have d0 := (hnx.cell (p := ⟨b, off + k * 5, none⟩) lb).trans c0
      have d1 := (hnx.cell (p := ⟨b, off + k * 5 + 1, none⟩) lb).trans c1
      have d2 := (hnx.cell (p := ⟨b, off + k * 5 + 2, none⟩) lb).trans c2
      have d3 := (hnx.cell (p := ⟨b, off + k * 5 + 3, none⟩) lb).trans c3
      have d4 := (hnx.cell (p := ⟨b, off + k * 5 + 4, none⟩) lb).trans c4
      have Hat : Hid (D.atKey ku (.held (.pointer none)) = .held pv) := hat
      have Hku : Hid (keyOf Yba.prog 51 (.agg #[.string sMember, .string user]) = some ku) := hku
      have Hnx : Hid (Below w.heap.size w wr) := hnx
      have Hev : Hid (Ev wr pv ws) := hev
      have Hown : Hid (wr.ownsMap Yba.prog 51 R w.heap.size k D) := hown
      clear hat hku hnx hev hown hents c0 c1 c2 c3 c4
      go_upto_if 36 with (go_at_call 6; refine (type_any sel s0 s1 _).mono ?_; rintro e w1 ⟨rfl, rfl⟩)
      go_cut [10] (fun s10 wx => ∃ kk : ByteArray, s10 = .string kk ∧ kk.size ≤ maxLen ∧ wx = wr.alloc (.cells #[.int .u8 sel, .string key, .string mem, .int .u8 kind, .int .i64 num] 27))
      case first =>
        by_cases hs : (sel / 3 % 2 == 0) = true
        · go_wp2_with fail
          go_meet
          case rel => exact ⟨user, rfl, hu, rfl⟩
        · have hs' : (sel / 3 % 2 == 0) = false := by simpa using hs
          go_wp2_with fail
          go_meet
          case rel => exact ⟨key, rfl, hks, rfl⟩
      case rest =>
        obtain ⟨kk, rfl, hkk, rfl⟩ := hcut
        go_upto_block 2 with fail
        go_cut [11, 12] (fun p g wx => ∃ gs : ByteArray, g = .string gs ∧ Ev wx p gs ∧ Below wr.heap.size wr wx)
        case first =>
          have hB : Below wr.heap.size wr (wr.alloc (.cells #[.int .u8 sel, .string key, .string mem, .int .u8 kind, .int .i64 num] 27)) := (Below.refl _ _).alloc (Nat.le_refl _) _
          have HB : Hid (Below wr.heap.size wr (wr.alloc (.cells #[.int .u8 sel, .string key, .string mem, .int .u8 kind, .int .i64 num] 27))) := hB
          clear hB
          by_cases q0 : (kind % 4 == 0) = true
          · go_wp2_with fail
            go_meet
            case rel =>
              exact ⟨mem, rfl, .inr (.inl ⟨wr.heap.size + 1, wr.heap.size + 1 + 1, key, rfl, cellE _ _ _ _ _ _ _, cellC _ _ _ _ _ _ _, cellC _ _ _ _ _ _ _, cellC _ _ _ _ _ _ _, cellC _ _ _ _ _ _ _⟩), (HB.out.alloc (by simp) _).alloc (by simp; omega) _⟩
          · have q0' : (kind % 4 == 0) = false := by simpa using q0
            clear q0
            by_cases q1 : (kind % 4 == 1) = true
            · go_wp2_with fail
              go_meet
              case rel => exact ⟨⟨#[]⟩, rfl, .inr (.inr (.inl ⟨wr.heap.size + 1, wr.heap.size + 1 + 1, num, rfl, rfl, cellE _ _ _ _ _ _ _, cellC _ _ _ _ _ _ _, cellC _ _ _ _ _ _ _⟩)), (HB.out.alloc (by simp) _).alloc (by simp; omega) _⟩
            · have q1' : (kind % 4 == 1) = false := by simpa using q1
              clear q1
              by_cases q2 : (kind % 4 == 2) = true
              · go_wp2_with fail
                go_meet
                case rel => exact ⟨⟨#[]⟩, rfl, .inr (.inr (.inr ⟨wr.heap.size + 1, wr.heap.size + 1 + 1, mem, rfl, rfl, cellE _ _ _ _ _ _ _, cellC _ _ _ _ _ _ _, cellC _ _ _ _ _ _ _⟩)), (HB.out.alloc (by simp) _).alloc (by simp; omega) _⟩
              · have q2' : (kind % 4 == 2) = false := by simpa using q2
                clear q2
                go_wp2_with fail
                go_meet
                case rel => exact ⟨⟨#[]⟩, rfl, .inl ⟨rfl, rfl⟩, HB.out⟩
        case rest =>
          obtain ⟨gs, rfl, hev', hb'⟩ := hcut
          have hown' : wc.ownsMap Yba.prog 51 R w.heap.size k D := Hown.out.kept (row := none) ⟨hb'.os, hb'.tape, hb'.output, hb'.size, fun j hj _ => hb'.block j hj⟩ (by simp)
          obtain ⟨kl, hkl⟩ := keyOf51 (tyOf sel) kk (tyOf_size sel) hkk
          have Hkl : Hid (keyOf Yba.prog 51 (.agg #[.string (tyOf sel), .string kk]) = some kl) := hkl
          have Hev' : Hid (Ev wc u11 gs) := hev'
          have Hb' : Hid (Below wr.heap.size wr wc) := hb'
          have Hown' : Hid (wc.ownsMap Yba.prog 51 R w.heap.size k D) := hown'
          clear hkl hev' hb' hown' d0 d1 d2 d3 d4
          generalize tyOf sel = ty at Hkl ⊢
          go_wp2_with (at_mapUpdate; refine wpList_mapUpdate_own _ rfl _ _ _ 24 rfl 51 29 keyed51 Yba.underlying24 R w.heap.size k D rfl Hown'.out (by unfold maxLen; omega) _ _ kl rfl rfl Hkl.out (.held u11) [] rfl ?_; intro w1 hown1 hg1)
          · have ht : ty.toList = [109, 46, 114, 111, 111, 109, 46, 109, 101, 109, 98, 101, 114] := by assumption
            have hk2 : (kk.toList == user.toList) = true := by assumption
            have R1 := rel_hit Hku.out Hkl.out ht hk2 hown1 hg1 Hev'.out (Hown'.out)
            have HB1 : Hid (Below w.heap.size w w1) := below_round (n := k) (D := D) Hnx.out Hb'.out hg1
            clear hown1 hg1
            go_roundw
            case rel => exact ⟨k + 1, _, _, gs, by omega, by go_num, rfl, R1.1, R1.2.1, R1.2.2, HB1.out⟩
            case measure => simp [intOf]; omega
          · have ht : ty.toList = [109, 46, 114, 111, 111, 109, 46, 109, 101, 109, 98, 101, 114] := by assumption
            have hk2 : (kk.toList == user.toList) = false := by assumption
            have R1 := rel_miss Hku.out Hkl.out (fun h => by simp [h.2] at hk2) hown1 hg1 Hb'.out Hat.out Hev.out Hown'.out
            have HB1 : Hid (Below w.heap.size w w1) := below_round (n := k) (D := D) Hnx.out Hb'.out hg1
            clear hown1 hg1
            go_roundw
            case rel => exact ⟨k + 1, _, _, ws, by omega, by go_num, rfl, R1.1, R1.2.1, R1.2.2, HB1.out⟩
            case measure => simp [intOf]; omega
          · have ht : ¬ ty.toList = [109, 46, 114, 111, 111, 109, 46, 109, 101, 109, 98, 101, 114] := by assumption
            have R1 := rel_miss Hku.out Hkl.out (fun h => ht h.1) hown1 hg1 Hb'.out Hat.out Hev.out Hown'.out
            have HB1 : Hid (Below w.heap.size w w1) := below_round (n := k) (D := D) Hnx.out Hb'.out hg1
            clear hown1 hg1
            go_roundw
            case rel => exact ⟨k + 1, _, _, ws, by omega, by go_num, rfl, R1.1, R1.2.1, R1.2.2, HB1.out⟩
            case measure => simp [intOf]; omega
    · go_wp2_with (go_at_call 7; refine (member_any user hu w.heap.size k D pv ws wr ku hku hown hat hev).mono ?_; rintro e w1 ⟨rfl, hb1⟩)
      go_ret
      exact ⟨rfl, hnx.trans (hb1.mono hnx.size)⟩
end Go.Proofs.Ybulkahag
