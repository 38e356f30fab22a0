import Derived.Test.YbulkahagMrgD
namespace Go.Proofs.Ybulkahag
open Go.RowKit Go.Maps Go.Shelf
set_option linter.unusedVariables false

/-- what the state must hold -/
def wantL (st bm sm : Int) (pl : Nat → Int) (n : Nat) : List Kp := wants (bit sm) (bit bm) (fs st pl) (fb st) 0 n

theorem mrg_law {st bm sm : Int} {pl : Nat → Int} (h1 : 1 ≤ st) (h2 : st ≤ 256) : mrg (ent (bit bm) (fb st) 0 64) (ent (bit sm) (fs st pl) 0 64) = wantL st bm sm pl 64 :=
  mrg_wants (bit sm) (bit bm) (fs st pl) (fb st) 64 (fun i j g1 g2 => ky_lt h1 h2 g1 g2) (fun i j g1 g2 => ky_lt h1 h2 g1 g2) (fun i _ => rfl) 64 0 (by omega)

theorem state_any (st bm sm : Int) (h1 : 1 ≤ st) (h2 : st ≤ 256) (pl : Nat → Int) (eb : Nat) (ev bev vb vm : Value) (w : World) (h : Edit w eb ev bev vb vm) (hev : ∃ p, ev = .pointer p) (lo : Nat)
    (hset : SetIs w lo st sm pl vm) (hrb : w.ownsRow lo 84 2 vb (ent (bit bm) (fb st) 0 64).length (cellsOf (ent (bit bm) (fb st) 0 64))) :
    Calls Yba.prog 9 #[.pointer (some ⟨eb, 0, none⟩)] w fun e w' => ∃ v, e = .returned (.agg #[ev, v]) ∧ w'.ownsRow 0 84 2 v (wantL st bm sm pl 64).length (cellsOf (wantL st bm sm pl 64)) ∧ Below w.heap.size w w' := by
  have hvb : ∃ a l c, vb = .slice a l c := by
    obtain ⟨a, c, e, _⟩ := lrow_of_owns hrb
    exact ⟨_, _, _, e⟩
  have empty : (vm = .map none ∨ ∃ mb nn D, vm = .map (some mb) ∧ w.ownsMap (H := Unit) Yba.prog 21 (plainElem Yba.prog 21) mb nn D ∧ Maps.size D = 0) → ent (bit sm) (fs st pl) 0 64 = [] →
      Calls Yba.prog 9 #[.pointer (some ⟨eb, 0, none⟩)] w fun e w' => ∃ v, e = .returned (.agg #[ev, v]) ∧ w'.ownsRow 0 84 2 v (wantL st bm sm pl 64).length (cellsOf (wantL st bm sm pl 64)) ∧ Below w.heap.size w w' := by
    intro hm he
    have e : wantL st bm sm pl 64 = ent (bit bm) (fb st) 0 64 := by rw [← mrg_law h1 h2, he, mrg_nil]
    rw [e]
    refine (state_empty eb ev bev vb vm w h hev hvb hm).mono ?_
    rintro x w' ⟨rfl, hb⟩
    exact ⟨vb, rfl, own_lower (hrb.kept (row := none) ⟨hb.os, hb.tape, hb.output, hb.size, fun j hj _ => hb.block j hj⟩ ((Classical.em (vb.ownBlock = none)).imp id id)) (Nat.zero_le _), hb⟩
  rcases hset with ⟨rfl, hno⟩ | ⟨mb, nn, D, rfl, hlo, hnn, hown, hmi⟩
  · refine empty (.inl rfl) (List.eq_nil_iff_forall_not_mem.2 fun x hx => ?_)
    obtain ⟨k, _, hk, hp, _⟩ := mem_ent.1 hx
    rw [hno k (by omega)] at hp
    cases hp
  · by_cases hz : Maps.size D = 0
    · exact empty (.inr ⟨mb, nn, D, rfl, hown, hz⟩) (List.eq_nil_of_length_eq_zero (by have := hmi.size; rw [hz] at this; exact this.symm))
    · refine (state_full st bm sm h1 h2 pl eb ev bev vb mb nn D w h hev hown hmi (by omega) lo hrb).mono ?_
      rintro x w' ⟨v, rfl, hr, hb⟩
      rw [mrg_law h1 h2] at hr
      exact ⟨v, rfl, own_lower hr (Nat.zero_le _), hb⟩

theorem edit_new (w : World) (o : Obj) (a b c d : Value) : Edit ((w.alloc o).alloc (.cells #[a, b, c, d] 81)) (w.heap.size + 1) a b c d := by
  have h : ((w.alloc o).alloc (.cells #[a, b, c, d] 81)).heap[w.heap.size + 1]? = some (.cells #[a, b, c, d] 81 (0, 0)) := by
    have := heap_alloc_new (w.alloc o) (.cells #[a, b, c, d] 81)
    simpa using this
  exact ⟨cell_of_row _ _ _ _ _ _ h, cell_of_row _ _ _ _ _ _ h, cell_of_row _ _ _ _ _ _ h, cell_of_row _ _ _ _ _ _ h⟩
theorem SetIs.alloc {w : World} {lo : Nat} {st sm : Int} {pl : Nat → Int} {v : Value} (h : SetIs w lo st sm pl v) (o : Obj) : SetIs (w.alloc o) lo st sm pl v := by
  rcases h with h | ⟨mb, nn, D, h1, h2, h3, h4, h5⟩
  · exact .inl h
  · exact .inr ⟨mb, nn, D, h1, h2, h3, h4.alloc o, h5⟩

theorem wantL_snoc (st bm sm : Int) (pl : Nat → Int) (n : Nat) : wantL st bm sm pl (n + 1) = wantL st bm sm pl n ++ want (bit sm) (bit bm) (fs st pl) (fb st) n := wants_snoc _ _ _ _ _
theorem wantL_pre (st bm sm : Int) (pl : Nat → Int) (k : Nat) : ∀ n, k ≤ n → ∃ t, wantL st bm sm pl n = wantL st bm sm pl k ++ t := by
  intro n
  induction n with
  | zero => intro h; exact ⟨[], by rw [show k = 0 by omega]; simp⟩
  | succ n ih =>
    intro h
    by_cases e : k = n + 1
    · exact ⟨[], by rw [e]; simp⟩
    · obtain ⟨t, ht⟩ := ih (by omega)
      exact ⟨t ++ want (bit sm) (bit bm) (fs st pl) (fb st) n, by rw [wantL_snoc, ht, List.append_assoc]⟩
theorem wantL_at {st bm sm : Int} {pl : Nat → Int} {k : Nat} (hk : k < 64) {x : Kp} (h : want (bit sm) (bit bm) (fs st pl) (fb st) k = [x]) : (wantL st bm sm pl 64)[(wantL st bm sm pl k).length]? = some x ∧ wantL st bm sm pl (k + 1) = wantL st bm sm pl k ++ [x] ∧ (wantL st bm sm pl k).length < (wantL st bm sm pl 64).length := by
  obtain ⟨t, ht⟩ := wantL_pre st bm sm pl (k + 1) 64 (by omega)
  have e : wantL st bm sm pl (k + 1) = wantL st bm sm pl k ++ [x] := by rw [wantL_snoc, h]
  rw [e] at ht
  refine ⟨?_, e, by rw [ht]; simp⟩
  rw [ht, List.append_assoc, List.getElem?_append_right (Nat.le_refl _)]
  simp
theorem wantL_len (st bm sm : Int) (pl : Nat → Int) : ∀ n, (wantL st bm sm pl n).length ≤ n := by
  intro n
  induction n with
  | zero => simp [wantL, wants]
  | succ n ih =>
    rw [wantL_snoc, List.length_append]
    have : (want (bit sm) (bit bm) (fs st pl) (fb st) n).length ≤ 1 := by
      unfold want
      split
      · simp
      · split <;> simp
    omega

theorem ptr_eq (b : Nat) (w : World) (m : Nat) : (Op.equalIn (m + 1) 60 (.pointer (some ⟨b, 0, none⟩)) (.pointer (some ⟨b, 0, none⟩))).run Yba.prog w = .ok true w := by
  unfold Op.equalIn
  simp [run_underlying Yba.underlying60, sameAddr]
theorem ptr_neq2 (b : Nat) (w : World) : (binOp .neq 60 (.pointer (some ⟨b, 0, none⟩)) (.pointer (some ⟨b, 0, none⟩))).run Yba.prog w = .ok (.bool false) w := by
  have h := ptr_eq b w 9999
  simp [binOp, go_sem, Op.equal]
  rw [show Op.maxDepth = 9999 + 1 from rfl, h]
  rfl

theorem below_dr {B : Nat} {a w : World} (h : Below B a w) (n : Nat) : Below B a (w.drewN n) := ⟨h.os, h.tape, h.output, h.size, h.block⟩

theorem set_shape {w : World} {lo : Nat} {st sm : Int} {pl : Nat → Int} {v : Value} (h : SetIs w lo st sm pl v) : ∃ mo, v = .map mo := by
  rcases h with ⟨rfl, _⟩ | ⟨mb, _, _, rfl, _⟩
  · exact ⟨_, rfl⟩
  · exact ⟨_, rfl⟩

set_option maxHeartbeats 4000000 in
set_option maxRecDepth 100000 in
theorem law_any (bm sm step : Int) (em : Bool) (g0 : 0 ≤ step) (g1 : step ≤ 255) (b0 : 0 ≤ bm) (b1 : bm < 18446744073709551616) (s0 : 0 ≤ sm) (s1 : sm < 18446744073709551616) (ao : Option Addr) (len cap : Nat) (hlen : len ≤ 1024) (pl : Nat → Int) (w : World) (hpl : Pl w ao len pl) :
    Calls Yba.prog 4 #[.int .u64 bm, .int .u64 sm, .int .u8 step, .slice ao len cap, .bool em] w fun e w' => e = .returned (.bool true) ∧ Below w.heap.size w w' := by
  have hl' : (len : Int) ≤ 1024 := by omega
  have HPl : Hid (Pl w ao len pl) := hpl
  clear hpl
  obtain ⟨st, hst⟩ : ∃ st, step + 1 = st := ⟨_, rfl⟩
  have h1 : 1 ≤ st := by omega
  have h2 : st ≤ 256 := by omega
  go_enter Yba.func4, Yba.ntmps4
  go_upto_region 7 with (go_at_call 8; refine (build_any bm sm _ em (by omega) (by omega) b0 b1 s0 s1 ao len cap pl w HPl.out).mono ?_; rintro e w1 ⟨vb, vm, rfl, hrb, hset, hb1⟩; obtain ⟨ab, cb, rfl, _, _⟩ := lrow_of_owns hrb; obtain ⟨mo, rfl⟩ := set_shape hset)
  have HEd : Hid (Edit ((w1.alloc (.cells #[.int .u64 0, .slice none 0 0, .int .i64 0, .slice none 0 0, .slice none 0 0, .slice none 0 0, .slice none 0 0, .slice none 0 0, .int .i64 0, .slice none 0 0, .slice none 0 0, .slice none 0 0, .map none, .pointer none] 76)).alloc (.cells #[.pointer (some ⟨w1.heap.size, 0, none⟩), .pointer (some ⟨w1.heap.size, 0, none⟩), .slice ab (ent (bit bm) (fb st) 0 64).length cb, .map mo] 81)) (w1.heap.size + 1) (.pointer (some ⟨w1.heap.size, 0, none⟩)) (.pointer (some ⟨w1.heap.size, 0, none⟩)) (.slice ab (ent (bit bm) (fb st) 0 64).length cb) (.map mo)) := edit_new _ _ _ _ _ _
  have HRb : Hid (World.ownsRow _ w.heap.size 84 2 (.slice ab (ent (bit bm) (fb st) 0 64).length cb) (ent (bit bm) (fb st) 0 64).length (cellsOf (ent (bit bm) (fb st) 0 64))) := (hrb.alloc (.cells #[.int .u64 0, .slice none 0 0, .int .i64 0, .slice none 0 0, .slice none 0 0, .slice none 0 0, .slice none 0 0, .slice none 0 0, .int .i64 0, .slice none 0 0, .slice none 0 0, .slice none 0 0, .map none, .pointer none] 76)).alloc (.cells #[.pointer (some ⟨w1.heap.size, 0, none⟩), .pointer (some ⟨w1.heap.size, 0, none⟩), .slice ab (ent (bit bm) (fb st) 0 64).length cb, .map mo] 81)
  have HSe := (hset.alloc (.cells #[.int .u64 0, .slice none 0 0, .int .i64 0, .slice none 0 0, .slice none 0 0, .slice none 0 0, .slice none 0 0, .slice none 0 0, .int .i64 0, .slice none 0 0, .slice none 0 0, .slice none 0 0, .map none, .pointer none] 76)).alloc (.cells #[.pointer (some ⟨w1.heap.size, 0, none⟩), .pointer (some ⟨w1.heap.size, 0, none⟩), .slice ab (ent (bit bm) (fb st) 0 64).length cb, .map mo] 81)
  have hsz1 := hb1.size
  have HB2 := (hb1.alloc hsz1 (.cells #[.int .u64 0, .slice none 0 0, .int .i64 0, .slice none 0 0, .slice none 0 0, .slice none 0 0, .slice none 0 0, .slice none 0 0, .int .i64 0, .slice none 0 0, .slice none 0 0, .slice none 0 0, .map none, .pointer none] 76)).alloc (by simp; omega) (.cells #[.pointer (some ⟨w1.heap.size, 0, none⟩), .pointer (some ⟨w1.heap.size, 0, none⟩), .slice ab (ent (bit bm) (fb st) 0 64).length cb, .map mo] 81)
  clear hrb hset hb1
  generalize hW2 : (w1.alloc (.cells #[.int .u64 0, .slice none 0 0, .int .i64 0, .slice none 0 0, .slice none 0 0, .slice none 0 0, .slice none 0 0, .slice none 0 0, .int .i64 0, .slice none 0 0, .slice none 0 0, .slice none 0 0, .map none, .pointer none] 76)).alloc (.cells #[.pointer (some ⟨w1.heap.size, 0, none⟩), .pointer (some ⟨w1.heap.size, 0, none⟩), .slice ab (ent (bit bm) (fb st) 0 64).length cb, .map mo] 81) = W2 at *
  clear hW2
  have HB2' : Hid (Below w.heap.size w W2) := HB2
  have hstate := state_any st bm sm h1 h2 pl _ _ _ _ _ W2 HEd.out ⟨_, rfl⟩ w.heap.size HSe HRb.out
  clear HEd HRb HSe HB2
  go_upto_region 8 with (go_at_call 9; refine hstate.mono ?_; rintro e w3 ⟨v, rfl, hr3, hb3⟩; obtain ⟨av, cv, rfl, hcv, hav⟩ := lrow_of_owns hr3)
  have HB3 : Hid (Below w.heap.size w w3) := HB2'.out.trans (hb3.mono HB2'.out.size)
  have Hav : Hid (0 < (wantL st bm sm pl 64).length → ∃ g, av = some ⟨g, 0, none⟩ ∧ LRow w3 g (wantL st bm sm pl 64)) := hav
  clear hstate hr3 hb3 hav HB2'
  have e0 : (w3.alloc (.cells #[.pointer (some ⟨w1.heap.size, 0, none⟩), .slice av (wantL st bm sm pl 64).length cv] 79)).cell? ⟨w3.heap.size, 0, none⟩ = some (.pointer (some ⟨w1.heap.size, 0, none⟩)) := by simp
  have e1 : (w3.alloc (.cells #[.pointer (some ⟨w1.heap.size, 0, none⟩), .slice av (wantL st bm sm pl 64).length cv] 79)).cell? ⟨w3.heap.size, 1, none⟩ = some (.slice av (wantL st bm sm pl 64).length cv) := by simp
  have hsz3 := HB3.out.size
  have HB4 : Hid (Below w.heap.size w (w3.alloc (.cells #[.pointer (some ⟨w1.heap.size, 0, none⟩), .slice av (wantL st bm sm pl 64).length cv] 79))) := HB3.out.alloc hsz3 _
  have Hav4 : Hid (0 < (wantL st bm sm pl 64).length → ∃ g, av = some ⟨g, 0, none⟩ ∧ LRow (w3.alloc (.cells #[.pointer (some ⟨w1.heap.size, 0, none⟩), .slice av (wantL st bm sm pl 64).length cv] 79)) g (wantL st bm sm pl 64)) := fun h => by
    obtain ⟨g, e, hl⟩ := Hav.out h
    exact ⟨g, e, hl.kept ((Below.refl _ _).alloc (Nat.le_refl _) _)⟩
  clear HB3 Hav
  generalize w3.alloc (.cells #[.pointer (some ⟨w1.heap.size, 0, none⟩), .slice av (wantL st bm sm pl 64).length cv] 79) = W4 at *
  generalize w3.heap.size = q4 at *
  have hN : (wantL st bm sm pl 64).length ≤ 64 := wantL_len _ _ _ _ _
  have HPl4 : Hid (Pl W4 ao len pl) := HPl.out.kept HB4.out
  have hsz4 := HB4.out.size
  have He : Hid (W4.cell? ⟨q4, 0, none⟩ = some (.pointer (some ⟨w1.heap.size, 0, none⟩)) ∧ W4.cell? ⟨q4, 1, none⟩ = some (.slice av (wantL st bm sm pl 64).length cv)) := ⟨e0, e1⟩
  have hpn := ptr_neq2 w1.heap.size
  go_wp2
  clear e0 e1 hpn
  go_loopw [17, 18] (fun v17 v18 wr => ∃ k : Nat, k ≤ 64 ∧ v18 = .int .i64 k ∧ v17 = .int .i64 ((wantL st bm sm pl k).length : Nat) ∧ Below W4.heap.size W4 wr) (fun _ i _ => 64 - (intOf i).toNat)
  case atStart => exact ⟨0, by omega, rfl, rfl, Below.refl _ _⟩
  case round =>
    obtain ⟨k, hk, rfl, rfl, hnx⟩ := hrel
    have lq : q4 < W4.heap.size := World.block_lt_of_cell? W4 _ He.out.1
    have e1 := (hnx.cell (p := ⟨q4, 1, none⟩) lq).trans He.out.2
    have hszr := hnx.size
    have Hnx : Hid (Below W4.heap.size W4 wr) := hnx
    clear hnx
    by_cases hlt : k < 64
    · have hlt' : (k : Int) < 64 := by omega
      have hlk := wantL_len st bm sm pl k
      cases hsb : bit sm k with
      | true =>
        have hw : want (bit sm) (bit bm) (fs st pl) (fb st) k = [(ky st k, pl k)] := by unfold want; rw [hsb]; rfl
        obtain ⟨at1, at2, at3⟩ := wantL_at hlt hw
        obtain ⟨g, rfl, hl⟩ := Hav4.out (by omega)
        obtain ⟨c0, c1⟩ := (hl.kept Hnx.out) _ _ at1
        have lg : g < wr.heap.size := World.block_lt_of_cell? wr _ c0
        have Hat2 : Hid (wantL st bm sm pl (k + 1) = wantL st bm sm pl k ++ [(ky st k, pl k)]) := at2
        have hsb' : (bits .and .u64 (sm / 2 ^ k) 1 == 1) = true := hsb
        have at3' : ((wantL st bm sm pl k).length : Int) < ((wantL st bm sm pl 64).length : Int) := by omega
        have hplc := place_any ao len cap pl k hlt
        clear at1 at2 hw hl
        have kA : ∀ o, (wr.alloc o).cell? ⟨g, (wantL st bm sm pl k).length * 2, none⟩ = some (.int .i32 (wrap32 ((k : Int) * st))) := fun o => (((Below.refl wr.heap.size wr).alloc (Nat.le_refl _) o).cell (p := ⟨g, _, none⟩) lg).trans c0
        have kB : ∀ o, (wr.alloc o).cell? ⟨g, (wantL st bm sm pl k).length * 2 + 1, none⟩ = some (.int .i32 (pl k)) := fun o => (((Below.refl wr.heap.size wr).alloc (Nat.le_refl _) o).cell (p := ⟨g, _, none⟩) lg).trans c1
        have kC : ∀ o, (wr.alloc o).cell? ⟨q4, 1, none⟩ = some (.slice (some ⟨g, 0, none⟩) (wantL st bm sm pl 64).length cv) := fun o => (((Below.refl wr.heap.size wr).alloc (Nat.le_refl _) o).cell (p := ⟨q4, _, none⟩) (show q4 < wr.heap.size by omega)).trans e1
        clear c0 c1 e1
        have HPk : Hid (∀ o, Pl (wr.alloc o) ao len pl) := fun o => HPl4.out.kept (Hnx.out.alloc hszr o)
        generalize hPk : pl k = pk at *
        go_upto_region 21 with (go_at_call 10; refine (hplc _ (HPk.out _)).mono ?_; rintro e w5 ⟨rfl, rfl⟩)
        go_quiet (fail)
        clear kA kB kC
        go_wp2
        go_roundw
        case rel => exact ⟨k + 1, by omega, by go_num, by rw [Hat2.out]; simp, below_dr (Hnx.out.alloc hszr _) _⟩
        case measure => simp [intOf]; omega
      | false =>
        have hsb' : (bits .and .u64 (sm / 2 ^ k) 1 == 1) = false := hsb
        cases hbb : bit bm k with
        | true =>
          have hbb' : (bits .and .u64 (bm / 2 ^ k) 1 == 1) = true := hbb
          have hw : want (bit sm) (bit bm) (fs st pl) (fb st) k = [(ky st k, (k : Int) + 100)] := by unfold want; rw [hsb, hbb]; rfl
          obtain ⟨at1, at2, at3⟩ := wantL_at hlt hw
          obtain ⟨g, rfl, hl⟩ := Hav4.out (by omega)
          obtain ⟨c0, c1⟩ := (hl.kept Hnx.out) _ _ at1
          have lg : g < wr.heap.size := World.block_lt_of_cell? wr _ c0
          have Hat2 : Hid (wantL st bm sm pl (k + 1) = wantL st bm sm pl k ++ [(ky st k, (k : Int) + 100)]) := at2
          have at3' : ((wantL st bm sm pl k).length : Int) < ((wantL st bm sm pl 64).length : Int) := by omega
          clear at1 at2 hw hl
          have kA : ∀ o, (wr.alloc o).cell? ⟨g, (wantL st bm sm pl k).length * 2, none⟩ = some (.int .i32 (wrap32 ((k : Int) * st))) := fun o => (((Below.refl wr.heap.size wr).alloc (Nat.le_refl _) o).cell (p := ⟨g, _, none⟩) lg).trans c0
          have kB : ∀ o, (wr.alloc o).cell? ⟨g, (wantL st bm sm pl k).length * 2 + 1, none⟩ = some (.int .i32 ((k : Int) + 100)) := fun o => (((Below.refl wr.heap.size wr).alloc (Nat.le_refl _) o).cell (p := ⟨g, _, none⟩) lg).trans c1
          have kC : ∀ o, (wr.alloc o).cell? ⟨q4, 1, none⟩ = some (.slice (some ⟨g, 0, none⟩) (wantL st bm sm pl 64).length cv) := fun o => (((Below.refl wr.heap.size wr).alloc (Nat.le_refl _) o).cell (p := ⟨q4, _, none⟩) (show q4 < wr.heap.size by omega)).trans e1
          clear c0 c1 e1
          go_upto_region 21 with fail
          go_quiet (fail)
          clear kA kB kC
          go_wp2
          go_roundw
          case rel => exact ⟨k + 1, by omega, by go_num, by rw [Hat2.out]; simp, below_dr (Hnx.out.alloc hszr _) _⟩
          case measure => simp [intOf]; omega
        | false =>
          have hbb' : (bits .and .u64 (bm / 2 ^ k) 1 == 1) = false := hbb
          have e : wantL st bm sm pl (k + 1) = wantL st bm sm pl k := by rw [wantL_snoc, want, hsb, hbb]; simp
          have He2 : Hid (wantL st bm sm pl (k + 1) = wantL st bm sm pl k) := e
          clear e
          go_wp2
          go_roundw
          case rel => exact ⟨k + 1, by omega, by go_num, by rw [He2.out], Hnx.out.alloc hszr _⟩
          case measure => simp [intOf]; omega
    · obtain rfl : k = 64 := by omega
      go_wp2
      go_ret
      exact ⟨by simp, HB4.out.trans (Hnx.out.mono hsz4)⟩
end Go.Proofs.Ybulkahag
