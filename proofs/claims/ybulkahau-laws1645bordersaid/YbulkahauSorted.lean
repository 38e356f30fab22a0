import Derived.Test.YbulkahauPeer
import Derived.Test.YbulkahauIter
namespace Go.Proofs.Ybulkahau
open Go.RowKit Go.Maps Go.Sort
open Go.Proofs
set_option linter.unusedVariables false

theorem wpList_look {w : World} {ops : Array Oper} {rest : List Oper} {o : Oper} {a : Act} {Q : Exit → Act → World → Prop} (hg : o.guard = none) (m x : Operand) (hop : o.op = Op.lookup 33 m x false)
    (mb n : Nat) (ps : List Peer) (hm : a.eval m = .map (some mb)) (hown : w.ownsMap Yba.prog 9 R mb n (DD ps)) (name : ByteArray) (hx : a.eval x = .string name) (hsz : name.size ≤ maxLen) (p : Peer) (hp : lastOf ps name.data.toList = some p)
    (hK : wpList Yba.prog ops Q rest (a.put o.dst (.agg #[.string p.name, .string p.pk, .string p.ep, .string p.ad])) w) : wpList Yba.prog ops Q (o :: rest) a w := by
  refine wpList_plain hg fun K' hK' => ?_
  obtain ⟨v, pl, hrun, hv⟩ := hown.lookup (t := 33) (e := 28) keyed9 Yba.underlying33 (zero28 w) (zd := .held (.agg #[.string ⟨#[]⟩, .string ⟨#[]⟩, .string ⟨#[]⟩, .string ⟨#[]⟩])) (zp := []) rfl (keyOf9 name hsz)
  rw [atKey_DD, hp] at hv
  simp only [R, Option.some.injEq, Prod.mk.injEq, DataW.held.injEq] at hv
  obtain ⟨rfl, _⟩ := hv
  unfold Oper.wp
  simp [execOp, hop, hm, hx, hrun, Result.andThen]
  exact hK' _ _ hK

theorem size_DD_le (ps : List Peer) : size (DD ps) ≤ ps.length := by
  induction ps using snoc_ind with
  | h0 => simp [DD_nil, size]
  | h1 l a ih =>
    rw [DD_snoc, size_put (tidy_DD l)]
    simp only [List.length_append, List.length_singleton]
    split <;> omega

theorem cell_four_new (w : World) (x y z u : Value) (t : TypeId) : ∀ j v, [x, y, z, u][j]? = some v → (w.alloc (.cells #[x, y, z, u] t)).cell? ((⟨w.heap.size, 0, none⟩ : Addr).add j) = some v := by
  intro j v hj
  match j, hj with
  | 0, hj => simp at hj; subst hj; simp [Addr.add]
  | 1, hj => simp at hj; subst hj; simp [Addr.add]
  | 2, hj => simp at hj; subst hj; simp [Addr.add]
  | 3, hj => simp at hj; subst hj; simp [Addr.add]
  | (j + 4), hj => simp at hj

def outCells (ps : List Peer) (L : List (List UInt8)) : List Value := L.flatMap fun s => (peerAt ps s).cells

theorem outCells_nil (ps : List Peer) : outCells ps [] = [] := rfl

theorem outCells_take (ps : List Peer) (L : List (List UInt8)) (k : Nat) (s : List UInt8) (p : Peer) (h : L[k]? = some s) (hp : lastOf ps s = some p) : outCells ps (L.take (k + 1)) = outCells ps (L.take k) ++ [.string p.name, .string p.pk, .string p.ep, .string p.ad] := by
  rw [List.take_add_one, h]
  simp [outCells, peerAt, hp, Peer.cells]

theorem info28 : (Yba.prog.info? 28).map (fun i => (i.zero, i.size, i.bytes)) = some (some (.agg #[.string ⟨#[]⟩, .string ⟨#[]⟩, .string ⟨#[]⟩, .string ⟨#[]⟩]), 4, 64) := by kernel_rfl

theorem sorted_pw (ss : List (List UInt8)) : (ss.mergeSort (fun x y => decide (x ≤ y))).Pairwise (· ≤ ·) := by
  have := List.pairwise_mergeSort (le := fun x y : List UInt8 => decide (x ≤ y)) (fun a b c h1 h2 => by simp only [decide_eq_true_eq] at *; exact List.le_trans h1 h2) (fun a b => by simp only [Bool.or_eq_true, decide_eq_true_eq]; exact List.le_total a b) ss
  exact this.imp (fun h => by simpa using h)

theorem row_shape {w : World} {base e n : Nat} {v : Value} {xs : List Value} (h : w.ownsRow base e 1 v n xs) : ∃ ao cap, v = .slice ao n cap ∧ ((n = 0 ∧ ao = none) ∨ ∃ g, ao = some ⟨g, 0, none⟩ ∧ base ≤ g ∧ g < w.heap.size ∧ ∀ j u, xs[j]? = some u → w.cell? ⟨g, j, none⟩ = some u) := by
  have h0 := h
  rcases h.2 with ⟨rfl, rfl⟩ | ⟨g, cap, cur, rfl, hbg, hg, hr⟩
  · exact ⟨none, 0, rfl, .inl ⟨rfl, rfl⟩⟩
  · refine ⟨_, _, rfl, .inr ⟨g, rfl, hbg, (Array.getElem?_eq_some_iff.1 hg).1, fun j u hu => ?_⟩⟩
    have := h0.cells (g := g) rfl j u hu
    rw [Addr.add] at this
    split at this
    · rename_i e; subst e; exact this
    · simpa using this

theorem mem_key {ps : List Peer} {L : List (List UInt8)} (hL : L.Perm (strKeys (DD ps))) (hsz : ∀ p ∈ ps, p.name.size ≤ maxLen) {k : Nat} {s : List UInt8} (h : L[k]? = some s) : ∃ p, lastOf ps s = some p ∧ s.length ≤ maxLen := by
  have hm : s ∈ strKeys (DD ps) := hL.mem_iff.1 (List.mem_of_getElem? h)
  rw [mem_strKeys] at hm
  obtain ⟨p, hp⟩ := Option.isSome_iff_exists.1 hm
  obtain ⟨h1, h2⟩ := lastOf_some hp
  refine ⟨p, hp, ?_⟩
  have := hsz p h1
  rw [← h2]
  exact this

theorem below_grown {w w' : World} {base : Nat} {v : Value} (hg : w.grownBy w' v.ownBlock) (hv : ∀ k, v.ownBlock = some k → base ≤ k) (hb : base ≤ w.heap.size) : Below base w w' :=
  ⟨hg.os, hg.tape, hg.output, hg.size, fun j hj => hg.block j (by omega) (fun e => by have := hv j e.symm; omega)⟩

set_option maxHeartbeats 1600000 in
set_option maxRecDepth 100000 in
theorem sorted_any (mb n : Nat) (ps : List Peer) (w : World) (hown : w.ownsMap Yba.prog 9 R mb n (DD ps)) (hlen : ps.length ≤ 1024) (hsz : ∀ p ∈ ps, p.name.size ≤ maxLen) :
    Calls Yba.prog 12 #[.map (some mb)] w fun e w' => ∃ v L, e = .returned v ∧ L.Perm (strKeys (DD ps)) ∧ L.Pairwise (· ≤ ·) ∧ w'.ownsRow w.heap.size 28 4 v L.length (outCells ps L) ∧ Below w.heap.size w w' := by
  obtain ⟨i0, hi, hz0, hz1, hz2⟩ := info_parts info28
  have Hown : Hid (w.ownsMap Yba.prog 9 R mb n (DD ps)) := hown
  have Hsz : Hid (∀ p ∈ ps, p.name.size ≤ maxLen) := hsz
  have Hle : Hid (size (DD ps) ≤ 1024) := Nat.le_trans (size_DD_le ps) hlen
  clear hown hlen hsz
  go_enter Yba.func12, Yba.ntmps12
  go_wp2_with (first
    | (go_at_call 16; refine (callsIn_wide.1 (Yba.maps_Keys_16 _ _)).mono ?_; rintro e w' ⟨rfl, rfl⟩)
    | (go_at_call 15; refine (callsIn_wide.1 (Yba.slices_Sorted_keys_15_16 mb n (DD ps) R w Hown.out (by have := Hle.out; unfold maxLen; omega) (by have := Hle.out; omega))).mono ?_; rintro e w1 ⟨v, ss, rfl, hS, hrow, hnil, hb⟩; obtain ⟨ao, cap, rfl, hsh⟩ := row_shape hrow))
  have hN : ss.length = size (DD ps) := by rw [hS.length_eq, strKeys_length]
  have hNN : ss.length ≤ 1024 := by rw [hN]; exact Hle.out
  have HB1 : Hid (Below w.heap.size w w1) := (((Below.refl _ w).alloc (Nat.le_refl _) _).trans (hb.mono (by simp)))
  have HO1 : Hid (w1.ownsMap Yba.prog 9 R mb n (DD ps)) := Hown.out.kept (row := none) ⟨HB1.out.os, HB1.out.tape, HB1.out.output, HB1.out.size, fun j hj _ => HB1.out.block j hj⟩ (by simp)
  have HL : Hid ((ss.mergeSort (fun x y => decide (x ≤ y))).Perm (strKeys (DD ps))) := (List.mergeSort_perm _ _).trans hS
  have HP : Hid ((ss.mergeSort (fun x y => decide (x ≤ y))).Pairwise (· ≤ ·)) := sorted_pw ss
  have HLn : Hid ((ss.mergeSort (fun x y => decide (x ≤ y))).length = ss.length) := (List.mergeSort_perm _ _).length_eq
  have hws : w.heap.size ≤ w1.heap.size := HB1.out.size
  clear hrow hnil hb hN hS Hown Hle
  generalize (ss.mergeSort (fun x y => decide (x ≤ y))) = L at *
  generalize ss.length = N at *
  rcases hsh with ⟨rfl, rfl⟩ | ⟨g, rfl, hbg, hgl, hcell⟩
  · go_loopw [3, 10] (fun r i wr => r = .slice none 0 0 ∧ i = .int .i64 0 ∧ wr = w1) (fun _ _ _ => 0)
    case atStart => exact ⟨rfl, rfl, rfl⟩
    case round =>
      obtain ⟨rfl, rfl, rfl⟩ := hrel
      go_wp2
      go_ret
      have h0 : L = [] := List.eq_nil_of_length_eq_zero HLn.out
      exact ⟨_, L, rfl, HL.out, HP.out, by rw [h0]; exact World.ownsRow_nil _ _ _ _, HB1.out⟩
  · have Hcell : Hid (∀ j u, (L.map encStr)[j]? = some u → w1.cell? ⟨g, j, none⟩ = some u) := hcell
    clear hcell
    go_loopw [3, 10] (fun r i wr => ∃ k : Nat, k ≤ N ∧ i = .int .i64 k ∧ wr.ownsRow w1.heap.size 28 4 r k (outCells ps (L.take k)) ∧ Below w1.heap.size w1 wr) (fun _ i _ => N - (intOf i).toNat)
    case atStart => exact ⟨0, Nat.zero_le _, rfl, World.ownsRow_nil _ _ _ _, Below.refl _ _⟩
    case round =>
      obtain ⟨k, hk, rfl, hown, hnx⟩ := hrel
      by_cases hlt : k < N
      · have hlt' : (k : Int) < (N : Int) := by omega
        obtain ⟨s, hs⟩ : ∃ s, L[k]? = some s := ⟨L[k]'(by rw [HLn.out]; exact hlt), List.getElem?_eq_getElem _⟩
        obtain ⟨p, hp, hsl⟩ := mem_key HL.out Hsz.out hs
        have HT : Hid (outCells ps (L.take (k + 1)) = outCells ps (L.take k) ++ [.string p.name, .string p.pk, .string p.ep, .string p.ad]) := outCells_take ps L k s p hs hp
        have e0 : wr.cell? ⟨g, k, none⟩ = some (.string ⟨s.toArray⟩) := (hnx.cell (p := ⟨g, k, none⟩) hgl).trans (Hcell.out k _ (by rw [List.getElem?_map, hs]; rfl))
        have HO : Hid (wr.ownsMap Yba.prog 9 R mb n (DD ps)) := HO1.out.kept (row := none) ⟨hnx.os, hnx.tape, hnx.output, hnx.size, fun j hj _ => hnx.block j hj⟩ (by simp)
        have Hp : Hid (lastOf ps s = some p) := hp
        have Hnx : Hid (Below w1.heap.size w1 wr) := hnx
        have Hrow : Hid (wr.ownsRow w1.heap.size 28 4 _ k (outCells ps (L.take k))) := hown
        have hsz1 : w1.heap.size ≤ wr.heap.size := hnx.size
        clear hs hp hown hnx
        go_wp2_with (first
          | (at_lookup; refine wpList_look rfl _ _ rfl mb n ps rfl HO.out ⟨s.toArray⟩ rfl hsl p Hp.out ?_)
          | (at_builtin; refine wpList_append_own _ rfl _ _ 22 rfl w1.heap.size 28 i0 _ 4 64 Yba.underlying22 hi hz0 hz1 hz2 rfl (by decide) _ _ _ rfl (Hrow.out.alloc _) ⟨wr.heap.size, 0, none⟩ 1 1 [.string p.name, .string p.pk, .string p.ep, .string p.ad] rfl rfl (cell_four_new _ _ _ _ _ _) (fun x hx => by simp at hx; rcases hx with rfl | rfl | rfl | rfl <;> rfl) (by unfold maxLen; omega) (by omega) (by simp; omega) ?_; intro v' w3 hown' hgrow3 hnil3))
        have HR : Hid (w3.ownsRow w1.heap.size 28 4 v' (k + 1) (outCells ps (L.take (k + 1)))) := by
          show w3.ownsRow w1.heap.size 28 4 v' (k + 1) (outCells ps (L.take (k + 1)))
          rw [HT.out]; exact hown'
        have HB : Hid (Below w1.heap.size w1 w3) := (Hnx.out.alloc hsz1 _).trans (below_grown hgrow3 (fun j hj => (Hrow.out.lt j hj).1) (by simp; omega))
        clear hown' hgrow3 hnil3
        go_roundw
        case rel => exact ⟨k + 1, by omega, by go_num, HR.out, HB.out⟩
        case measure => simp [intOf]; omega
      · obtain rfl : k = N := by omega
        have hT : L.take k = L := List.take_of_length_le (by rw [HLn.out]; exact Nat.le_refl _)
        rw [hT] at hown
        go_wp2
        go_ret
        exact ⟨_, L, rfl, HL.out, HP.out, by rw [HLn.out]; exact ownsRow_base_a hown hws, HB1.out.trans (hnx.mono hws)⟩
end Go.Proofs.Ybulkahau
