import Derived.Test.YbulkahauPeers
import Derived.BigQuiet
namespace Go.Proofs.Ybulkahau
open Go.RowKit Go.Maps
open Go.Proofs
set_option linter.unusedVariables false

theorem heap_four (w : World) (a b c d : Obj) : ((((w.alloc a).alloc b).alloc c).alloc d).heap[w.heap.size + 1 + 1 + 1]? = some d := by
  have := heap_alloc_new (((w.alloc a).alloc b).alloc c) d
  simpa using this

set_option maxHeartbeats 1600000 in
set_option maxRecDepth 100000 in
theorem dir_nil (a : Option Addr) (cap : Nat) (w : World) :
    Calls Yba.prog 5 #[.slice a 0 cap] w fun e w' => ∃ db, e = .returned (.pointer (some ⟨db, 0, none⟩)) ∧ w.heap.size < db ∧ Dir w' db w.heap.size 0 [] ∧ Below w.heap.size w w' := by
  have hmm := @run_makeMap Yba.prog
  have hown : (w.alloc (.map #[] 0)).ownsMap Yba.prog 9 R w.heap.size 0 (DD []) := World.ownsMap_made w Yba.prog 9 R
  have Hown : Hid ((w.alloc (.map #[] 0)).ownsMap Yba.prog 9 R w.heap.size 0 (DD [])) := hown
  clear hown
  go_enter Yba.func5, Yba.ntmps5
  go_wp2
  refine wp_loop_rounds 1 ?_
  rw [rounds_succ]
  go_wp2_with (refine wpList_built rfl 49 #[(3, .tmp 21)] rfl _ (by simp only [List.map_toArray, List.map_cons, List.map_nil]; exact built49 _ _ _) ?_)
  go_ret
  have hz : w.heap.size ≤ (w.alloc (.map #[] 0)).heap.size := by simp
  refine ⟨_, rfl, ?_, ⟨⟨_, _, heap_four _ _ _ _ _⟩, ((Hown.out.alloc _).alloc _).alloc _⟩, ((((Below.refl _ _).alloc (Nat.le_refl _) _).alloc hz _).alloc (by simp; omega) _).alloc (by simp; omega) _⟩
  omega

/-- the peers handed back lie in their row -/
def RowAt (w : World) (g : Nat) (ps : List Peer) (L : List (List UInt8)) : Prop := ∀ k s, L[k]? = some s → ∃ p, lastOf ps s = some p ∧ p.nm = s ∧ p.name.size ≤ maxLen ∧
  w.cell? ⟨g, k * 4, none⟩ = some (.string p.name) ∧ w.cell? ⟨g, k * 4 + 1, none⟩ = some (.string p.pk) ∧ w.cell? ⟨g, k * 4 + 2, none⟩ = some (.string p.ep) ∧ w.cell? ⟨g, k * 4 + 3, none⟩ = some (.string p.ad)

theorem RowAt.kept {w w' : World} {g : Nat} {ps : List Peer} {L : List (List UInt8)} (h : RowAt w g ps L) (hb : Below w.heap.size w w') : RowAt w' g ps L := by
  intro k s hs
  obtain ⟨p, h0, h1, h2, c0, c1, c2, c3⟩ := h k s hs
  have lb : g < w.heap.size := World.block_lt_of_cell? w _ c0
  exact ⟨p, h0, h1, h2, (hb.cell (p := ⟨g, _, none⟩) lb).trans c0, (hb.cell (p := ⟨g, _, none⟩) lb).trans c1, (hb.cell (p := ⟨g, _, none⟩) lb).trans c2, (hb.cell (p := ⟨g, _, none⟩) lb).trans c3⟩

theorem outCells_at (ps : List Peer) (L : List (List UInt8)) (k : Nat) (s : List UInt8) (p : Peer) (h : L[k]? = some s) (hp : lastOf ps s = some p) (j : Nat) (hj : j < 4) : (outCells ps L)[k * 4 + j]? = [Value.string p.name, .string p.pk, .string p.ep, .string p.ad][j]? := by
  induction L generalizing k with
  | nil => simp at h
  | cons a l ih =>
    have hc : outCells ps (a :: l) = (peerAt ps a).cells ++ outCells ps l := by simp [outCells]
    rw [hc]
    cases k with
    | zero =>
      simp at h
      subst h
      rw [List.getElem?_append_left (by simp [Peer.cells]; omega)]
      simp [peerAt, hp, Peer.cells]
    | succ k =>
      simp at h
      rw [List.getElem?_append_right (by simp [Peer.cells]; omega)]
      have := ih k h
      rw [← this]
      congr 1
      simp [Peer.cells]
      omega

theorem row_at {w : World} {base N : Nat} {v : Value} {ps : List Peer} {L : List (List UInt8)} (h : w.ownsRow base 28 4 v N (outCells ps L)) (hL : L.Perm (strKeys (DD ps))) (hsz : ∀ p ∈ ps, p.name.size ≤ maxLen) (hN : 0 < N) :
    ∃ g cap, v = .slice (some ⟨g, 0, none⟩) N cap ∧ base ≤ g ∧ g < w.heap.size ∧ RowAt w g ps L := by
  have h0 := h
  rcases h.2 with ⟨rfl, rfl⟩ | ⟨g, cap, cur, rfl, hbg, hg, hr⟩
  · omega
  · refine ⟨g, cap, rfl, hbg, (Array.getElem?_eq_some_iff.1 hg).1, fun k s hs => ?_⟩
    obtain ⟨p, hp, _⟩ := mem_key hL hsz hs
    obtain ⟨hm, hn⟩ := lastOf_some hp
    have each : ∀ j u, j < 4 → [Value.string p.name, .string p.pk, .string p.ep, .string p.ad][j]? = some u → w.cell? ⟨g, k * 4 + j, none⟩ = some u := by
      intro j u hj hu
      have := h0.cells (g := g) rfl (k * 4 + j) u (by rw [outCells_at ps L k s p hs hp j hj]; exact hu)
      rw [Addr.add] at this
      split at this
      · rename_i e; rw [e]; exact this
      · simpa using this
    exact ⟨p, hp, hn, hsz p hm, each 0 _ (by omega) rfl, each 1 _ (by omega) rfl, each 2 _ (by omega) rfl, each 3 _ (by omega) rfl⟩

theorem PeersAt.sizes {w : World} {b off : Nat} {ps : List Peer} (h : PeersAt w b off ps) : ∀ p ∈ ps, p.name.size ≤ maxLen := by
  intro p hp
  obtain ⟨k, hk, e⟩ := List.getElem_of_mem hp
  exact (h k p (by rw [List.getElem?_eq_getElem hk, e])).1

theorem row_nil {w : World} {base : Nat} {v : Value} {L : List (List UInt8)} (h : w.ownsRow base 28 4 v L.length (outCells [] L)) (hL : L.Perm (strKeys (DD []))) : ∃ ao cap, v = .slice ao 0 cap := by
  have h0 : L.length = 0 := by rw [hL.length_eq]; rfl
  rcases h.2 with ⟨rfl, _⟩ | ⟨g, cap, cur, rfl, _⟩
  · exact ⟨_, _, rfl⟩
  · exact ⟨_, _, by rw [h0]⟩

theorem keys_pos {ps : List Peer} {L : List (List UInt8)} (hL : L.Perm (strKeys (DD ps))) (h : 0 < ps.length) : 0 < L.length := by
  obtain ⟨p, hp⟩ := List.exists_mem_of_length_pos h
  have : p.nm ∈ L := hL.mem_iff.2 ((mem_strKeys ps p.nm).2 (lastOf_isSome hp))
  exact List.length_pos_of_mem this

end Go.Proofs.Ybulkahau
