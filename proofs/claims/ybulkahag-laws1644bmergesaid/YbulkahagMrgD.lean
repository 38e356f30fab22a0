import Derived.Test.YbulkahagMrgC
namespace Go.Proofs.Ybulkahag
open Go.RowKit Go.Maps Go.Shelf
set_option linter.unusedVariables false

theorem row_of_owns {w : World} {base g n : Nat} {ss : List Kp} (h : w.ownsRow base 84 2 (.slice (some ⟨g, 0, none⟩) n n) n (cellsOf ss)) : Row g w ss.toArray := by
  obtain ⟨hl, h2⟩ := h
  rcases h2 with ⟨h0, _⟩ | ⟨g', cap, cur, hv, _, hg, _, _, hcs, ht⟩
  · cases h0
  · simp at hv
    obtain ⟨rfl, rfl⟩ := hv
    have e : cur = flat ss.toArray := by
      apply Array.toList_inj.1
      have e1 : cur.toList.take (n * 2) = cur.toList := List.take_of_length_le (by simp; omega)
      rw [e1] at ht
      rw [ht]
      rfl
    rw [e] at hg
    exact hg

theorem add_plain'' (g j : Nat) : (⟨g, 0, none⟩ : Addr).add j = ⟨g, j, none⟩ := by
  unfold Addr.add
  split
  · rename_i e; subst e; rfl
  · simp

def lenV : Value → Nat
  | .slice _ n _ => n
  | _ => 0

/-- the entries lie there -/
def LRow (w : World) (g : Nat) (l : List Kp) : Prop := ∀ j x, l[j]? = some x → w.cell? ⟨g, j * 2, none⟩ = some (.int .i32 x.1) ∧ w.cell? ⟨g, j * 2 + 1, none⟩ = some (.int .i32 x.2)

theorem LRow.kept {w w' : World} {g : Nat} {l : List Kp} (h : LRow w g l) (hb : Below w.heap.size w w') : LRow w' g l := by
  intro j x hx
  obtain ⟨c0, c1⟩ := h j x hx
  have lb : g < w.heap.size := World.block_lt_of_cell? w _ c0
  exact ⟨(hb.cell (p := ⟨g, _, none⟩) lb).trans c0, (hb.cell (p := ⟨g, _, none⟩) lb).trans c1⟩
theorem lrow_of {w : World} {g : Nat} {d : Array Kp} {l : List Kp} (h : Row g w d) (hl : d.toList = l) : LRow w g l := by
  subst hl
  intro j x hx
  have hj : j < d.size := by
    have := (List.getElem?_eq_some_iff.1 hx).1
    simpa using this
  obtain ⟨c0, c1, _, _⟩ := h.cells hj
  have e := get!_of hj
  rw [hx] at e
  have e' : x = d[j]! := Option.some.inj e
  rw [e']
  exact ⟨c0, c1⟩
theorem lrow_of_owns {w : World} {lo n : Nat} {v : Value} {l : List Kp} (h : w.ownsRow lo 84 2 v n (cellsOf l)) : ∃ ao cap, v = .slice ao n cap ∧ n ≤ cap ∧ (0 < n → ∃ g, ao = some ⟨g, 0, none⟩ ∧ LRow w g l) := by
  have h0 := h
  rcases h.2 with ⟨rfl, rfl⟩ | ⟨g, cap, cur, rfl, _, hg, hc, _⟩
  · exact ⟨_, _, rfl, Nat.le_refl _, fun h => by omega⟩
  · refine ⟨_, _, rfl, hc, fun _ => ⟨g, rfl, fun j x hx => ?_⟩⟩
    have he := cellsOf_at l j x hx
    have a0 := h0.cells (g := g) rfl _ _ he.1
    have a1 := h0.cells (g := g) rfl _ _ he.2
    rw [add_plain''] at a0 a1
    exact ⟨a0, a1⟩

theorem drop_at {l : List Kp} {i : Nat} {x : Kp} (h : l[i]? = some x) : l.drop i = x :: l.drop (i + 1) := by
  obtain ⟨hi, e⟩ := List.getElem?_eq_some_iff.1 h
  rw [List.drop_eq_getElem_cons hi, e]
theorem mstep_b {B S : List Kp} {i j : Nat} {x : Kp} (hx : B[i]? = some x) (h : S.drop j = [] ∨ ∃ y, S[j]? = some y ∧ x.1 < y.1) : mrg (B.drop i) (S.drop j) = x :: mrg (B.drop (i + 1)) (S.drop j) := by
  rw [drop_at hx]
  rcases h with h | ⟨y, hy, hl⟩
  · rw [h, mrg_nil, mrg_nil]
  · rw [drop_at hy, mrg, if_pos hl]
theorem mstep_e {B S : List Kp} {i j : Nat} {x y : Kp} (hx : B[i]? = some x) (hy : S[j]? = some y) (h : x.1 = y.1) : mrg (B.drop i) (S.drop j) = y :: mrg (B.drop (i + 1)) (S.drop (j + 1)) := by
  rw [drop_at hx, drop_at hy, mrg, if_neg (by omega), if_pos h]
theorem mstep_s {B S : List Kp} {i j : Nat} {y : Kp} (hy : S[j]? = some y) (h : B.drop i = [] ∨ ∃ x, B[i]? = some x ∧ ¬ x.1 < y.1 ∧ ¬ x.1 = y.1) : mrg (B.drop i) (S.drop j) = y :: mrg (B.drop i) (S.drop (j + 1)) := by
  rw [drop_at hy]
  rcases h with h | ⟨x, hx, h1, h2⟩
  · rw [h]; simp [mrg]
  · rw [drop_at hx, mrg, if_neg h1, if_neg h2]
theorem below_app {w2 wr w5 wd : World} {o : Obj} (h : Below w2.heap.size w2 wr) (hg : (wd.alloc o).grownBy w5 (some w2.heap.size)) (hd : wd.heap = wr.heap ∧ wd.os = wr.os ∧ wd.tape = wr.tape ∧ wd.output = wr.output) : Below w2.heap.size w2 w5 := by
  obtain ⟨e1, e2, e3, e4⟩ := hd
  have hb : Below w2.heap.size w2 wd := ⟨e2.trans h.os, e3.trans h.tape, e4.trans h.output, by rw [e1]; exact h.size, fun k hk => by rw [e1]; exact h.block k hk⟩
  have hs := hb.size
  exact (hb.alloc hs o).trans ⟨hg.os, hg.tape, hg.output, hg.size, fun j hj => hg.block j (by simp; omega) (by simp; omega)⟩

theorem row_heap {w w' : World} {base e size n : Nat} {v : Value} {xs : List Value} (h : w.ownsRow base e size v n xs) (eq : w'.heap = w.heap) : w'.ownsRow base e size v n xs := by
  unfold World.ownsRow at *
  rw [eq]
  exact h

theorem row_set {w : World} {base e size n q a : Nat} {v u : Value} {xs : List Value} (h : w.ownsRow base e size v n xs) (hq : q < base) : (w.setCell ⟨q, a, none⟩ u).ownsRow base e size v n xs := by
  refine h.kept (row := some q) ⟨rfl, rfl, rfl, by simp, fun k _ hne => Below.heap_setCell _ _ _ _ (fun e => hne (by rw [e]))⟩ ?_
  by_cases hv : v.ownBlock = none
  · exact .inl hv
  · right
    intro e
    have := (h.lt q e).1
    omega
theorem own_lower {w : World} {base base' e size n : Nat} {v : Value} {xs : List Value} (h : w.ownsRow base e size v n xs) (hb : base' ≤ base) : w.ownsRow base' e size v n xs := by
  refine ⟨h.1, ?_⟩
  rcases h.2 with h0 | ⟨g, cap, cur, a, b, c⟩
  · exact .inl h0
  · exact .inr ⟨g, cap, cur, a, Nat.le_trans hb b, c⟩

theorem has_of_at {D : DataW Unit} {x c : Int} (h : ∀ zd, D.atKey (.int .i32 x) zd = .lit (.int .i32 c)) : has D (.int .i32 x) = true := by
  cases hh : has D (.int .i32 x) with
  | true => rfl
  | false =>
    have e := h (.lit (.bool true))
    rw [atKey_of_not_has hh] at e
    cases e

set_option maxHeartbeats 4000000 in
set_option maxRecDepth 100000 in
theorem state_full (st bm sm : Int) (h1 : 1 ≤ st) (h2 : st ≤ 256) (pl : Nat → Int) (eb : Nat) (ev bev vb : Value) (mb nn : Nat) (D : DataW Unit) (w : World) (h : Edit w eb ev bev vb (.map (some mb))) (hev : ∃ p, ev = .pointer p)
    (hown : w.ownsMap Yba.prog 21 (plainElem Yba.prog 21) mb nn D) (hmi : MapIs st (bit sm) pl 64 D) (hpos : 0 < Maps.size D) (lo : Nat)
    (hrb : w.ownsRow lo 84 2 vb (ent (bit bm) (fb st) 0 64).length (cellsOf (ent (bit bm) (fb st) 0 64))) :
    Calls Yba.prog 9 #[.pointer (some ⟨eb, 0, none⟩)] w fun e w' => ∃ v, e = .returned (.agg #[ev, v]) ∧ w'.ownsRow w.heap.size 84 2 v (mrg (ent (bit bm) (fb st) 0 64) (ent (bit sm) (fs st pl) 0 64)).length (cellsOf (mrg (ent (bit bm) (fb st) 0 64) (ent (bit sm) (fs st pl) 0 64))) ∧ Below w.heap.size w w' := by
  obtain ⟨i0, hi, hz0, hz1, hz2⟩ := info_parts info84
  obtain ⟨p, rfl⟩ := hev
  have hB := begun h
  have hml := hown.lt
  have HE : Hid (Edit w eb (.pointer p) bev vb (.map (some mb))) := h
  have hnl : Maps.size D ≤ 64 := by rw [hmi.size]; exact ent_length _ _ _ _
  obtain ⟨n, hn⟩ : ∃ n, Maps.size D = n := ⟨_, rfl⟩
  rw [hn] at hpos hnl
  have Hown : Hid ((w.alloc (.cells #[.pointer none, .slice none 0 0] 79)).ownsMap Yba.prog 21 (plainElem Yba.prog 21) mb nn D) := hown.alloc (.cells #[.pointer none, .slice none 0 0] 79)
  have Hmi : Hid (MapIs st (bit sm) pl 64 D) := hmi
  have Hrb : Hid (w.ownsRow lo 84 2 vb (ent (bit bm) (fb st) 0 64).length (cellsOf (ent (bit bm) (fb st) 0 64))) := hrb
  obtain ⟨⟨c0, c1, c2, c3⟩, hrow, hbel⟩ := hB
  have HR0 : Hid ((w.alloc (.cells #[.pointer none, .slice none 0 0] 79)).heap[w.heap.size]? = some (.cells #[.pointer none, .slice none 0 0] 79 (0, 0))) := hrow
  have HB0 : Hid (Below w.heap.size w (w.alloc (.cells #[.pointer none, .slice none 0 0] 79))) := hbel
  have hz' : ((n : Int) == 0) = false := by simp; omega
  have hsz0 : (w.alloc (.cells #[.pointer none, .slice none 0 0] 79)).heap.size = w.heap.size + 1 := by simp
  clear hrow hbel h hown hmi hrb
  go_enter Yba.func9, Yba.ntmps9
  go_upto_region 4 with (first
    | (at_len; refine wpList_len_own _ rfl _ 57 rfl 21 21 Yba.underlying57 _ mb nn D rfl Hown.out ?_; rw [hn])
    | (refine wpList_make_own _ rfl _ _ 56 rfl w.heap.size 84 i0 _ 2 Yba.underlying56 hi hz0 hz1 .i64 .i64 (n : Int) n rfl rfl rfl (by rw [hz2]; omega) (by unfold maxLen; omega) (by simp) ?_; intro wm hownm hgm))
  rw [hsz0] at hownm
  have HRm : Hid (wm.heap[w.heap.size]? = some (.cells #[.pointer none, .slice none 0 0] 79 (0, 0))) := (hgm.block _ (by rw [hsz0]; omega) (by simp)).trans HR0.out
  have HBm : Hid (Below w.heap.size w wm) := HB0.out.trans ⟨hgm.os, hgm.tape, hgm.output, hgm.size, fun j hj => hgm.block j (by rw [hsz0]; omega) (by simp)⟩
  have Hownm : Hid (wm.ownsMap Yba.prog 21 (plainElem Yba.prog 21) mb nn D) := Hown.out.kept hgm (by simp)
  have Hrm : Hid (wm.ownsRow w.heap.size 84 2 (.slice (some ⟨w.heap.size + 1, 0, none⟩) 0 n) 0 []) := hownm
  have hgl : w.heap.size + 1 < wm.heap.size := ((hownm.lt _ rfl).2)
  obtain ⟨m0, m1, m2, m3⟩ := HE.out.kept HBm.out
  clear hownm hgm c0 c1 c2 c3 HR0 HB0 Hown hsz0
  generalize hgg : w.heap.size + 1 = g at *
  go_wp2_with (at_range; refine wpList_range_own _ rfl _ 57 rfl 21 21 keyed21 Yba.underlying57 _ mb nn D rfl Hownm.out ?_; intro w0 hrg0 hg0 hs0)
  go_frame
  have Hrg0 : Hid (w0.ranges Yba.prog 21 (plainElem Yba.prog 21) mb wm.heap.size nn D (Maps.has D) (Maps.size D)) := hrg0
  have HB00 : Hid (Below w.heap.size w w0) := HBm.out.trans ⟨hg0.os, hg0.tape, hg0.output, hg0.size, fun j hj => hg0.block j (by omega) (by simp)⟩
  have HR00 : Hid (w0.heap[w.heap.size]? = some (.cells #[.pointer none, .slice none 0 0] 79 (0, 0))) := (hg0.block _ (by omega) (by simp)).trans HRm.out
  have Hr00 : Hid (w0.ownsRow w.heap.size 84 2 (.slice (some ⟨g, 0, none⟩) 0 n) 0 []) := Hrm.out.kept hg0 (.inr (by simp [Value.ownBlock]))
  clear hrg0 hg0 hs0 HBm HRm Hrm Hownm m0 m1 m2 m3
  generalize hrr : wm.heap.size = r at *
  go_loopw [3] (fun v wr => ∃ (left : Lit → Bool) (cnt : Nat) (ss : List Kp), v = .slice (some ⟨g, 0, none⟩) ss.length n ∧ wr.ranges Yba.prog 21 (plainElem Yba.prog 21) mb r nn D left cnt ∧ ss.length + cnt ≤ n ∧ Coll D left ss ∧ wr.ownsRow w.heap.size 84 2 (.slice (some ⟨g, 0, none⟩) ss.length n) ss.length (cellsOf ss) ∧ wr.heap[w.heap.size]? = some (.cells #[.pointer none, .slice none 0 0] 79 (0, 0)) ∧ Below w.heap.size w wr) (fun _ wr => wr.rangeLeft mb r)
  case atStart => exact ⟨_, _, [], rfl, Hrg0.out, by simp; omega, Coll.start D, Hr00.out, HR00.out, HB00.out⟩
  case round =>
    clear Hrg0 HB00 HR00 Hr00
    obtain ⟨left, cnt, ss, rfl, hrg, hcnt, hcl, hrow, hrr0, hnx⟩ := hrel
    have Hrg : Hid (wr.ranges Yba.prog 21 (plainElem Yba.prog 21) mb r nn D left cnt) := hrg
    have Hcl : Hid (Coll D left ss) := hcl
    have Hrow : Hid (wr.ownsRow w.heap.size 84 2 (.slice (some ⟨g, 0, none⟩) ss.length n) ss.length (cellsOf ss)) := hrow
    have Hrr : Hid (wr.heap[w.heap.size]? = some (.cells #[.pointer none, .slice none 0 0] 79 (0, 0))) := hrr0
    have Hnx : Hid (Below w.heap.size w wr) := hnx
    have hszr := hnx.size
    have hgw : g < wr.heap.size := (hrow.lt _ rfl).2
    clear hrg hcl hrow hrr0 hnx
    go_wp2_with (at_next; refine wpList_next_ranges_ii _ rfl _ rfl 21 21 .i32 .i32 keyed21 Yba.underlying21 Yba.underlying21 mb r nn _ _ _ rfl Hrg.out ?_ ?_)
    · intro hc0 hl0
      have hpm := Hcl.out.fin hl0 h1 h2 Hmi.out
      have hlen : ss.length = n := by rw [hpm.length_eq, ← hn, Hmi.out.size]
      have HRw : Hid (Row g wr ss.toArray) := by
        have := Hrow.out
        rw [hlen] at this
        exact row_of_owns this
      have HK : Hid (Keys ss.toArray) := Hcl.out.nodup
      have HSp : Hid (ss.Perm (ent (bit sm) (fs st pl) 0 64)) := hpm
      clear hpm Hrow Hrg Hcl hl0 hc0
      subst hlen
      go_upto_region 9 with (go_at_call 12; refine (sort_any g ss.length hnl ss.toArray (by simp) HK.out wr HRw.out).mono ?_; rintro e w2 ⟨rfl, d', hpo, hr2, hf2⟩)
      obtain ⟨q1, q2⟩ := post_list hpo (by simp)
      have hS : d'.toList = ent (bit sm) (fs st pl) 0 64 := eq_of_strict (q1.trans HSp.out) q2 (ent_pw (bit sm) (fs st pl) 64 (fun i j g1 g2 => ky_lt h1 h2 g1 g2))
      have HLS : Hid (LRow w2 g (ent (bit sm) (fs st pl) 0 64)) := lrow_of hr2 hS
      have hln : ss.length = (ent (bit sm) (fs st pl) 0 64).length := HSp.out.length_eq
      have HB2 : Hid (Below w.heap.size w w2) := Hnx.out.trans ⟨hf2.os, hf2.tape, hf2.output, hf2.size, fun j hj => hf2.block j (by omega) (by omega)⟩
      have HR2 : Hid (w2.heap[w.heap.size]? = some (.cells #[.pointer none, .slice none 0 0] 79 (0, 0))) := (hf2.block _ (by omega) (by omega)).trans Hrr.out
      have hg2 : g < w2.heap.size := hr2.lt
      have hsz2 := HB2.out.size
      clear hr2 hf2 q1 q2 hS hpo HRw HK HSp Hnx Hrr hszr hgw hcnt
      obtain ⟨m0, m1, m2, m3⟩ := HE.out.kept HB2.out
      obtain ⟨ab, cb, rfl, hcb, hab⟩ := lrow_of_owns (Hrb.out.kept (row := none) ⟨HB2.out.os, HB2.out.tape, HB2.out.output, HB2.out.size, fun j hj _ => HB2.out.block j hj⟩ ((Classical.em (vb.ownBlock = none)).imp id id))
      have Hab : Hid (0 < (ent (bit bm) (fb st) 0 64).length → ∃ gb, ab = some ⟨gb, 0, none⟩ ∧ LRow w2 gb (ent (bit bm) (fb st) 0 64)) := hab
      clear hab Hrb Hmi
      have hbl := ent_length (bit bm) (fb st) 0 64
      rw [hln] at hnl hpos hz' ⊢
      clear hln hn
      have HeS : Hid (∃ S, ent (bit sm) (fs st pl) 0 64 = S) := ⟨_, rfl⟩
      generalize heS : ent (bit sm) (fs st pl) 0 64 = S at *
      generalize heB : ent (bit bm) (fb st) 0 64 = B at *
      have HeS2 : Hid (ent (bit sm) (fs st pl) 0 64 = S) := heS
      have HeB2 : Hid (ent (bit bm) (fb st) 0 64 = B) := heB
      clear heS heB HeS
      go_wp2_with (refine wpList_make_own _ rfl _ _ 56 rfl w2.heap.size 84 i0 _ 2 Yba.underlying56 hi hz0 hz1 .i64 .i64 _ (B.length + S.length) rfl rfl (by omega) (by rw [hz2]; omega) (by unfold maxLen; omega) (Nat.le_refl _) ?_; intro w4 hown4 hg4)
      have HB4 : Hid (Below w2.heap.size w2 w4) := ⟨hg4.os, hg4.tape, hg4.output, hg4.size, fun j hj => hg4.block j hj (by simp)⟩
      have Hr4 : Hid (w4.ownsRow w2.heap.size 84 2 (.slice (some ⟨w2.heap.size, 0, none⟩) 0 (B.length + S.length)) 0 []) := hown4
      clear hown4 hg4 m0 m1 m2 m3
      go_loopw [3, 6, 7] (fun v3 v6 v7 wr => ∃ (i p j q : Nat) (a6 a3 : Option Addr) (c6 c3 : Nat) (es : List Kp), i + p = B.length ∧ j + q = S.length ∧ v6 = .slice a6 p c6 ∧ p ≤ c6 ∧ (0 < p → ∃ gb, a6 = some ⟨gb, i * 2, none⟩ ∧ LRow w2 gb B) ∧ v3 = .slice a3 q c3 ∧ q ≤ c3 ∧ (0 < q → a3 = some ⟨g, j * 2, none⟩) ∧ v7 = .slice (some ⟨w2.heap.size, 0, none⟩) es.length (B.length + S.length) ∧ es.length ≤ i + j ∧ wr.ownsRow w2.heap.size 84 2 (.slice (some ⟨w2.heap.size, 0, none⟩) es.length (B.length + S.length)) es.length (cellsOf es) ∧ es ++ mrg (B.drop i) (S.drop j) = mrg B S ∧ Below w2.heap.size w2 wr) (fun v3 v6 _ _ => lenV v3 + lenV v6)
      case atStart => exact ⟨0, B.length, 0, S.length, ab, _, cb, S.length, [], by omega, by omega, rfl, hcb, by simpa using Hab.out, rfl, Nat.le_refl _, fun _ => by simp, rfl, by simp, Hr4.out, by simp, HB4.out⟩
      case round =>
        clear Hab Hr4 HB4 hcb
        obtain ⟨i, p6, j, q, a6, a3, c6, c3, es, hip, hjq, rfl, hc6, ha6, rfl, hc3, ha3, rfl, hel, hrow, heq, hnx⟩ := hrel
        by_cases hp0 : 0 < p6
        · obtain ⟨gb, rfl, hlb⟩ := ha6 hp0
          obtain ⟨x, hx⟩ : ∃ x, B[i]? = some x := ⟨B[i]'(by omega), List.getElem?_eq_getElem _⟩
          obtain ⟨b0, b1⟩ := (hlb.kept hnx) i x hx
          have hp0' : (0 : Int) < (p6 : Int) := by omega
          have hdp : decide ((0 : Int) < (p6 : Int)) = true := decide_eq_true hp0'
          by_cases hq0 : 0 < q
          · obtain rfl := ha3 hq0
            obtain ⟨y, hy⟩ : ∃ y, S[j]? = some y := ⟨S[j]'(by omega), List.getElem?_eq_getElem _⟩
            obtain ⟨s0, s1⟩ := (HLS.out.kept hnx) j y hy
            have hq0' : ((q : Int) == 0) = false := by simp; omega
            have hq1' : (0 : Int) < (q : Int) := by omega
            have Hrow : Hid (wr.ownsRow w2.heap.size 84 2 (.slice (some ⟨w2.heap.size, 0, none⟩) es.length (B.length + S.length)) es.length (cellsOf es)) := hrow
            have Hnx : Hid (Below w2.heap.size w2 wr) := hnx
            clear hrow hnx
            by_cases hxy : x.1 < y.1
            · have Heq : Hid ((es ++ [x]) ++ mrg (B.drop (i + 1)) (S.drop j) = mrg B S) := by
                have := heq
                rw [mstep_b hx (.inr ⟨y, hy, hxy⟩)] at this
                show _ = _
                simpa using this
              clear heq
              go_upto_region 12 with fail
              go_quiet (fail)
              go_wp2_with (at_builtin; refine wpList_append_fits _ rfl _ _ 56 rfl w2.heap.size 84 i0 2 Yba.underlying56 hi hz1 w2.heap.size es.length (B.length + S.length) (cellsOf es) rfl (by exact (Hrow.out : (wr.drewN nq).ownsRow _ _ _ _ _ _).alloc _) ⟨wr.heap.size, 0, none⟩ 1 1 [.int .i32 x.1, .int .i32 x.2] rfl rfl (two_new (wr.drewN nq) _ _ _) (fun x hx => by simp at hx; rcases hx with rfl | rfl <;> rfl) (by omega) ?_; intro w5 hown5 hg5)
              have HO : Hid (w5.ownsRow w2.heap.size 84 2 (.slice (some ⟨w2.heap.size, 0, none⟩) (es ++ [x]).length (B.length + S.length)) (es ++ [x]).length (cellsOf (es ++ [x]))) := by
                show w5.ownsRow w2.heap.size 84 2 (.slice (some ⟨w2.heap.size, 0, none⟩) (es ++ [x]).length (B.length + S.length)) (es ++ [x]).length (cellsOf (es ++ [x]))
                rw [List.length_append, cellsOf_append]
                exact hown5
              have HB5 : Hid (Below w2.heap.size w2 w5) := below_app Hnx.out hg5 ⟨rfl, rfl, rfl, rfl⟩
              clear hown5 hg5
              go_roundw
              case rel => exact ⟨i + 1, p6 - 1, j, q, _, _, _, _, es ++ [x], by omega, hjq, rfl, by omega, fun hp => ⟨gb, by rw [if_neg (by omega), show (i + 1) * 2 = i * 2 + 2 by omega], hlb⟩, rfl, hc3, fun _ => rfl, by simp, by simp; omega, HO.out, Heq.out, HB5.out⟩
              case measure => simp [lenV]; omega
            · have hxyd : decide (x.1 < y.1) = false := decide_eq_false hxy
              by_cases hxe : x.1 = y.1
              · have Heq : Hid ((es ++ [y]) ++ mrg (B.drop (i + 1)) (S.drop (j + 1)) = mrg B S) := by
                  have := heq
                  rw [mstep_e hx hy hxe] at this
                  show _ = _
                  simpa using this
                have hxe' : (x.1 == y.1) = true := by simpa using hxe
                clear heq
                go_upto_region 12 with fail
                go_quiet (fail)
                go_upto_region 15 with fail
                go_quiet (fail)
                go_wp2_with (at_builtin; refine wpList_append_fits _ rfl _ _ 56 rfl w2.heap.size 84 i0 2 Yba.underlying56 hi hz1 w2.heap.size es.length (B.length + S.length) (cellsOf es) rfl ((row_heap Hrow.out rfl).alloc _) ⟨wr.heap.size, 0, none⟩ 1 1 [.int .i32 y.1, .int .i32 y.2] rfl rfl (two_new _ _ _ _) (fun x hx => by simp at hx; rcases hx with rfl | rfl <;> rfl) (by omega) ?_; intro w5 hown5 hg5)
                have HO : Hid (w5.ownsRow w2.heap.size 84 2 (.slice (some ⟨w2.heap.size, 0, none⟩) (es ++ [y]).length (B.length + S.length)) (es ++ [y]).length (cellsOf (es ++ [y]))) := by
                  show w5.ownsRow w2.heap.size 84 2 (.slice (some ⟨w2.heap.size, 0, none⟩) (es ++ [y]).length (B.length + S.length)) (es ++ [y]).length (cellsOf (es ++ [y]))
                  rw [List.length_append, cellsOf_append]
                  exact hown5
                have HB5 : Hid (Below w2.heap.size w2 w5) := below_app Hnx.out hg5 ⟨rfl, rfl, rfl, rfl⟩
                clear hown5 hg5
                go_roundw
                case rel => exact ⟨i + 1, p6 - 1, j + 1, q - 1, _, _, _, _, es ++ [y], by omega, by omega, rfl, by omega, fun hp => ⟨gb, by rw [if_neg (by omega), show (i + 1) * 2 = i * 2 + 2 by omega], hlb⟩, rfl, by omega, fun hq => by rw [if_neg (by omega), show (j + 1) * 2 = j * 2 + 2 by omega], by simp, by simp; omega, HO.out, Heq.out, HB5.out⟩
                case measure => simp [lenV]; omega
              · have Heq : Hid ((es ++ [y]) ++ mrg (B.drop i) (S.drop (j + 1)) = mrg B S) := by
                  have := heq
                  rw [mstep_s hy (.inr ⟨x, hx, hxy, hxe⟩)] at this
                  show _ = _
                  simpa using this
                have hxe' : (x.1 == y.1) = false := by simpa using hxe
                clear heq
                go_upto_region 12 with fail
                go_quiet (fail)
                go_upto_region 15 with fail
                go_quiet (fail)
                go_wp2_with (at_builtin; refine wpList_append_fits _ rfl _ _ 56 rfl w2.heap.size 84 i0 2 Yba.underlying56 hi hz1 w2.heap.size es.length (B.length + S.length) (cellsOf es) rfl ((row_heap Hrow.out rfl).alloc _) ⟨wr.heap.size, 0, none⟩ 1 1 [.int .i32 y.1, .int .i32 y.2] rfl rfl (two_new _ _ _ _) (fun x hx => by simp at hx; rcases hx with rfl | rfl <;> rfl) (by omega) ?_; intro w5 hown5 hg5)
                have HO : Hid (w5.ownsRow w2.heap.size 84 2 (.slice (some ⟨w2.heap.size, 0, none⟩) (es ++ [y]).length (B.length + S.length)) (es ++ [y]).length (cellsOf (es ++ [y]))) := by
                  show w5.ownsRow w2.heap.size 84 2 (.slice (some ⟨w2.heap.size, 0, none⟩) (es ++ [y]).length (B.length + S.length)) (es ++ [y]).length (cellsOf (es ++ [y]))
                  rw [List.length_append, cellsOf_append]
                  exact hown5
                have HB5 : Hid (Below w2.heap.size w2 w5) := below_app Hnx.out hg5 ⟨rfl, rfl, rfl, rfl⟩
                clear hown5 hg5
                go_roundw
                case rel => exact ⟨i, p6, j + 1, q - 1, _, _, _, _, es ++ [y], hip, by omega, rfl, hc6, fun _ => ⟨gb, rfl, hlb⟩, rfl, by omega, fun hq => by rw [if_neg (by omega), show (j + 1) * 2 = j * 2 + 2 by omega], by simp, by simp; omega, HO.out, Heq.out, HB5.out⟩
                case measure => simp [lenV]; omega
          · have hq : q = 0 := by omega
            subst hq
            have Heq : Hid ((es ++ [x]) ++ mrg (B.drop (i + 1)) (S.drop j) = mrg B S) := by
              have := heq
              rw [mstep_b hx (.inl (List.drop_eq_nil_of_le (by omega)))] at this
              show _ = _
              simpa using this
            have Hrow : Hid (wr.ownsRow w2.heap.size 84 2 (.slice (some ⟨w2.heap.size, 0, none⟩) es.length (B.length + S.length)) es.length (cellsOf es)) := hrow
            have Hnx : Hid (Below w2.heap.size w2 wr) := hnx
            clear hrow hnx heq
            go_upto_region 12 with fail
            go_quiet (fail)
            go_wp2_with (at_builtin; refine wpList_append_fits _ rfl _ _ 56 rfl w2.heap.size 84 i0 2 Yba.underlying56 hi hz1 w2.heap.size es.length (B.length + S.length) (cellsOf es) rfl (by exact (Hrow.out : (wr.drewN nq).ownsRow _ _ _ _ _ _).alloc _) ⟨wr.heap.size, 0, none⟩ 1 1 [.int .i32 x.1, .int .i32 x.2] rfl rfl (two_new (wr.drewN nq) _ _ _) (fun x hx => by simp at hx; rcases hx with rfl | rfl <;> rfl) (by omega) ?_; intro w5 hown5 hg5)
            have HO : Hid (w5.ownsRow w2.heap.size 84 2 (.slice (some ⟨w2.heap.size, 0, none⟩) (es ++ [x]).length (B.length + S.length)) (es ++ [x]).length (cellsOf (es ++ [x]))) := by
              show w5.ownsRow w2.heap.size 84 2 (.slice (some ⟨w2.heap.size, 0, none⟩) (es ++ [x]).length (B.length + S.length)) (es ++ [x]).length (cellsOf (es ++ [x]))
              rw [List.length_append, cellsOf_append]
              exact hown5
            have HB5 : Hid (Below w2.heap.size w2 w5) := below_app Hnx.out hg5 ⟨rfl, rfl, rfl, rfl⟩
            clear hown5 hg5
            go_roundw
            case rel => exact ⟨i + 1, p6 - 1, j, 0, _, _, _, _, es ++ [x], by omega, hjq, rfl, by omega, fun hp => ⟨gb, by rw [if_neg (by omega), show (i + 1) * 2 = i * 2 + 2 by omega], hlb⟩, rfl, hc3, fun h => by omega, by simp, by simp; omega, HO.out, Heq.out, HB5.out⟩
            case measure => simp [lenV]; omega
        · have hp : p6 = 0 := by omega
          subst hp
          have hBn : B.drop i = [] := List.drop_eq_nil_of_le (by omega)
          by_cases hq0 : 0 < q
          · obtain rfl := ha3 hq0
            obtain ⟨y, hy⟩ : ∃ y, S[j]? = some y := ⟨S[j]'(by omega), List.getElem?_eq_getElem _⟩
            obtain ⟨s0, s1⟩ := (HLS.out.kept hnx) j y hy
            have hq0' : ((q : Int) == 0) = false := by simp; omega
            have hq1' : (0 : Int) < (q : Int) := by omega
            have Hrow : Hid (wr.ownsRow w2.heap.size 84 2 (.slice (some ⟨w2.heap.size, 0, none⟩) es.length (B.length + S.length)) es.length (cellsOf es)) := hrow
            have Hnx : Hid (Below w2.heap.size w2 wr) := hnx
            have Heq : Hid ((es ++ [y]) ++ mrg (B.drop i) (S.drop (j + 1)) = mrg B S) := by
              have := heq
              rw [mstep_s hy (.inl hBn)] at this
              show _ = _
              simpa using this
            clear hrow hnx heq hBn ha6
            go_upto_region 12 with fail
            go_quiet (fail)
            go_upto_region 15 with fail
            go_quiet (fail)
            go_wp2_with (at_builtin; refine wpList_append_fits _ rfl _ _ 56 rfl w2.heap.size 84 i0 2 Yba.underlying56 hi hz1 w2.heap.size es.length (B.length + S.length) (cellsOf es) rfl ((row_heap Hrow.out rfl).alloc _) ⟨wr.heap.size, 0, none⟩ 1 1 [.int .i32 y.1, .int .i32 y.2] rfl rfl (two_new _ _ _ _) (fun x hx => by simp at hx; rcases hx with rfl | rfl <;> rfl) (by omega) ?_; intro w5 hown5 hg5)
            have HO : Hid (w5.ownsRow w2.heap.size 84 2 (.slice (some ⟨w2.heap.size, 0, none⟩) (es ++ [y]).length (B.length + S.length)) (es ++ [y]).length (cellsOf (es ++ [y]))) := by
              show w5.ownsRow w2.heap.size 84 2 (.slice (some ⟨w2.heap.size, 0, none⟩) (es ++ [y]).length (B.length + S.length)) (es ++ [y]).length (cellsOf (es ++ [y]))
              rw [List.length_append, cellsOf_append]
              exact hown5
            have HB5 : Hid (Below w2.heap.size w2 w5) := below_app Hnx.out hg5 ⟨rfl, rfl, rfl, rfl⟩
            clear hown5 hg5
            go_roundw
            case rel => exact ⟨i, 0, j + 1, q - 1, _, _, _, _, es ++ [y], hip, by omega, rfl, hc6, fun h => by omega, rfl, by omega, fun hq => by rw [if_neg (by omega), show (j + 1) * 2 = j * 2 + 2 by omega], by simp, by simp; omega, HO.out, Heq.out, HB5.out⟩
            case measure => simp [lenV]; omega
          · have hq : q = 0 := by omega
            subst hq
            have hSn : S.drop j = [] := List.drop_eq_nil_of_le (by omega)
            have hes : es = mrg B S := by
              rw [hBn, hSn] at heq
              simpa [mrg] using heq
            obtain ⟨m0, _, _, _⟩ := HE.out.kept (HB2.out.trans (hnx.mono hsz2))
            have hrr2 : wr.heap[w.heap.size]? = some (.cells #[.pointer none, .slice none 0 0] 79 (0, 0)) := (hnx.block _ (by omega)).trans HR2.out
            have d0 : wr.cell? ⟨w.heap.size, 0, none⟩ = some (.pointer none) := cell_of_row _ _ _ _ _ _ hrr2
            have d1 : wr.cell? ⟨w.heap.size, 1, none⟩ = some (.slice none 0 0) := cell_of_row _ _ _ _ _ _ hrr2
            have f0 := frozen_of_row _ _ 0 _ _ hrr2
            have f1 := frozen_of_row _ _ 1 _ _ hrr2
            have HRf : Hid (wr.heap[w.heap.size]? = some (.cells #[.pointer none, .slice none 0 0] 79 (0, 0))) := hrr2
            have HBf : Hid (Below w.heap.size w wr) := HB2.out.trans (hnx.mono hsz2)
            have Hrow : Hid (wr.ownsRow w2.heap.size 84 2 (.slice (some ⟨w2.heap.size, 0, none⟩) es.length (B.length + S.length)) es.length (cellsOf es)) := hrow
            have Hes : Hid (es = mrg B S) := hes
            clear hrow hrr2 heq hes hBn hSn hnx ha6 ha3
            go_wp2
            refine bodyPost_ret (ret_state w.heap.size (.pointer p) _ _ rfl (set_state _ _ HRf.out)) rfl ?_
            refine ⟨_, rfl, ?_, below_state _ _ HBf.out (Nat.le_refl _)⟩
            rw [HeB2.out, HeS2.out, ← Hes.out]
            exact own_lower (row_set (row_set Hrow.out (by omega)) (by omega)) (by omega)
    · intro x c w1 cnt1 hwx hwc hlx hat hrg1 hlt hg1 hs1 hen
      have Hat : Hid (∀ zd, D.atKey (.int .i32 x) zd = .lit (.int .i32 c)) := hat
      have Hlx : Hid (left (.int .i32 x) = true) := hlx
      have Hrg1 : Hid (w1.ranges Yba.prog 21 (plainElem Yba.prog 21) mb r nn D (fun z => left z && !z.sameKey (.int .i32 x)) cnt1) := hrg1
      have Hrow1 : Hid (w1.ownsRow w.heap.size 84 2 (.slice (some ⟨g, 0, none⟩) ss.length n) ss.length (cellsOf ss)) := Hrow.out.kept hg1 (.inr (by simp [Value.ownBlock]; omega))
      have HB1 : Hid (Below w.heap.size w w1) := Hnx.out.trans ⟨hg1.os, hg1.tape, hg1.output, hg1.size, fun j hj => hg1.block j (by omega) (by simp; omega)⟩
      have HR1 : Hid (w1.heap[w.heap.size]? = some (.cells #[.pointer none, .slice none 0 0] 79 (0, 0))) := (hg1.block _ (by omega) (by simp; omega)).trans Hrr.out
      have hsz1 := HB1.out.size
      have hgw1 : g < w1.heap.size := by have := hg1.size; omega
      clear hat hlx hrg1 hg1 hs1 Hrow Hnx Hrr
      go_wp2_with (at_builtin; refine wpList_append_fits _ rfl _ _ 56 rfl w.heap.size 84 i0 2 Yba.underlying56 hi hz1 g ss.length n (cellsOf ss) rfl (Hrow1.out.alloc _) ⟨w1.heap.size, 0, none⟩ 1 1 [.int .i32 x, .int .i32 c] rfl rfl (two_new _ _ _ _) (fun x hx => by simp at hx; rcases hx with rfl | rfl <;> rfl) (by omega) ?_; intro w3 hown3 hg3)
      have HC : Hid (Coll D (fun z => left z && !z.sameKey (.int .i32 x)) (ss ++ [(x, c)])) := Hcl.out.step Hlx.out (has_of_at Hat.out) Hat.out
      have HO : Hid (w3.ownsRow w.heap.size 84 2 (.slice (some ⟨g, 0, none⟩) (ss ++ [(x, c)]).length n) (ss ++ [(x, c)]).length (cellsOf (ss ++ [(x, c)]))) := by
        show w3.ownsRow w.heap.size 84 2 (.slice (some ⟨g, 0, none⟩) (ss ++ [(x, c)]).length n) (ss ++ [(x, c)]).length (cellsOf (ss ++ [(x, c)]))
        rw [List.length_append, cellsOf_append]
        exact hown3
      have HG : Hid (w3.ranges Yba.prog 21 (plainElem Yba.prog 21) mb r nn D (fun z => left z && !z.sameKey (.int .i32 x)) cnt1) := (Hrg1.out.alloc _).kept hg3 (by simp; omega) (by simp; omega)
      have HB3 : Hid (Below w.heap.size w w3) := (HB1.out.alloc hsz1 _).trans ⟨hg3.os, hg3.tape, hg3.output, hg3.size, fun j hj => hg3.block j (by simp; omega) (by simp; omega)⟩
      have HR3 : Hid (w3.heap[w.heap.size]? = some (.cells #[.pointer none, .slice none 0 0] 79 (0, 0))) := ((hg3.block _ (by simp; omega) (by simp; omega)).trans (Below.heap_alloc _ _ _ (by omega))).trans HR1.out
      have hle1 : (ss ++ [(x, c)]).length + cnt1 ≤ n := by simp; omega
      clear hown3 hg3 HB1 HR1 Hrow1 Hrg1
      go_roundw
      case rel => exact ⟨_, cnt1, ss ++ [(x, c)], by simp, HG.out, hle1, HC.out, HO.out, HR3.out, HB3.out⟩
      case measure => rw [HG.out.left_eq, Hrg.out.left_eq]; exact hlt
end Go.Proofs.Ybulkahag
