import Derived.Test.YbulkahauPlain
import Derived.WalkLawsBesides
import Derived.Maps.OwnOps
namespace Go.Proofs.Ybulkahau
open Go.RowKit Go.Maps
set_option linter.unusedVariables false

/-- the cells of the peers that came in -/
def PeersAt (w : World) (b off : Nat) (ps : List Peer) : Prop := ∀ k p, ps[k]? = some p → p.name.size ≤ maxLen ∧ w.cell? ⟨b, off + k * 4, none⟩ = some (.string p.name) ∧ w.cell? ⟨b, off + k * 4 + 1, none⟩ = some (.string p.pk) ∧ w.cell? ⟨b, off + k * 4 + 2, none⟩ = some (.string p.ep) ∧ w.cell? ⟨b, off + k * 4 + 3, none⟩ = some (.string p.ad)

theorem PeersAt.kept {w w' : World} {b off : Nat} {ps : List Peer} (h : PeersAt w b off ps) (hb : Below w.heap.size w w') : PeersAt w' b off ps := by
  intro k p hp
  obtain ⟨h0, h1, h2, h3, h4⟩ := h k p hp
  have lb : b < w.heap.size := World.block_lt_of_cell? w _ h1
  exact ⟨h0, (hb.cell (p := ⟨b, _, none⟩) lb).trans h1, (hb.cell (p := ⟨b, _, none⟩) lb).trans h2, (hb.cell (p := ⟨b, _, none⟩) lb).trans h3, (hb.cell (p := ⟨b, _, none⟩) lb).trans h4⟩

theorem wpList_built {P : Program} {ops : Array Oper} {rest : List Oper} {o : Oper} {a : Act} {w : World} {Q : Exit → Act → World → Prop} (hg : o.guard = none) (t : TypeId) (parts : Array (Nat × Operand)) (ho : o.op = .build t parts)
    (cells : Array Value) (hb : P.built t (parts.map fun (i, x) => (i, a.eval x)).toList = some cells)
    (h : wpList P ops Q rest (a.put o.dst (.agg cells)) w) : wpList P ops Q (o :: rest) a w :=
  wpList_build hg t parts ho (by rw [hb]; rfl) (by rw [hb]; exact h)

/-- the cells of a Directory -/
def dirCells (n m g : Value) : Array Value := #[.string ⟨#[]⟩, .int .i32 0, .int .u32 0, .int .i32 0, .int .u32 0, n, m, .slice none 0 0, g, .int .u64 0] ++ Array.replicate 64 (.string ⟨#[]⟩)
theorem built49 (n m g : Option Nat) : Yba.prog.built 49 [(3, .agg #[.map n, .map m, .slice none 0 0, .map g])] = some (dirCells (.map n) (.map m) (.map g)) := by kernel_rfl

theorem keyed9 : Keyed Yba.prog 9 := string_keyed Yba.underlying9
theorem keyOf9 (s : ByteArray) (h : s.size ≤ maxLen) : keyOf Yba.prog 9 (.string s) = some (.string s.data.toList) := Go.WideMaps.keyOf_string_mk Yba.underlying9 h

/-- the Directory lies at block db, its map at block mb, and reads as the peers say -/
structure Dir (w : World) (db mb n : Nat) (ps : List Peer) : Prop where
  blk : ∃ x y, w.heap[db]? = some (.cells (dirCells x (.map (some mb)) y) 49 (0, 0))
  own : w.ownsMap Yba.prog 9 R mb n (DD ps)

theorem heap_three (w : World) (a b c : Obj) : (((w.alloc a).alloc b).alloc c).heap[w.heap.size + 1 + 1]? = some c := by
  have := heap_alloc_new ((w.alloc a).alloc b) c
  simpa using this

set_option maxHeartbeats 1600000 in
set_option maxRecDepth 100000 in
theorem dir_any (ps : List Peer) (b off len cap : Nat) (w : World) (hlen : ps.length = len) (hl : len ≤ 1024) (hps : PeersAt w b off ps) :
    Calls Yba.prog 5 #[.slice (some ⟨b, off, none⟩) len cap] w fun e w' => ∃ db, e = .returned (.pointer (some ⟨db, 0, none⟩)) ∧ w.heap.size < db ∧ Dir w' db w.heap.size len ps ∧ Below w.heap.size w w' := by
  have hmm := @run_makeMap Yba.prog
  have Hps : Hid (PeersAt w b off ps) := hps
  have Hlen : Hid (ps.length = len) := hlen
  clear hps hlen
  go_enter Yba.func5, Yba.ntmps5
  go_wp2
  go_loopw [9] (fun i wr => ∃ k : Nat, k ≤ len ∧ i = .int .i64 k ∧ wr.ownsMap Yba.prog 9 R w.heap.size k (DD (ps.take k)) ∧ Below w.heap.size w wr) (fun i _ => len - (intOf i).toNat)
  case atStart => exact ⟨0, Nat.zero_le _, rfl, World.ownsMap_made w Yba.prog 9 R, (Below.refl _ _).alloc (Nat.le_refl _) _⟩
  case round =>
    obtain ⟨k, hk, rfl, hown, hnx⟩ := hrel
    by_cases hlt : k < len
    · have hlt' : (k : Int) < (len : Int) := by omega
      have hkp : k < ps.length := by rw [Hlen.out]; exact hlt
      obtain ⟨p, hp⟩ : ∃ p, ps[k]? = some p := ⟨ps[k], List.getElem?_eq_getElem hkp⟩
      obtain ⟨hsz, d0, d1, d2, d3⟩ := Hps.out k p hp
      have lb : b < w.heap.size := World.block_lt_of_cell? w _ d0
      have e0 := (hnx.cell (p := ⟨b, off + k * 4, none⟩) lb).trans d0
      have e1 := (hnx.cell (p := ⟨b, off + k * 4 + 1, none⟩) lb).trans d1
      have e2 := (hnx.cell (p := ⟨b, off + k * 4 + 2, none⟩) lb).trans d2
      have e3 := (hnx.cell (p := ⟨b, off + k * 4 + 3, none⟩) lb).trans d3
      have HT : Hid (ps.take (k + 1) = ps.take k ++ [p]) := by
        show ps.take (k + 1) = ps.take k ++ [p]
        rw [List.take_add_one, hp]; rfl
      have Hnx : Hid (Below w.heap.size w wr) := hnx
      have Hown : Hid (wr.ownsMap Yba.prog 9 R w.heap.size k (DD (ps.take k))) := hown
      have Hsz : Hid (p.name.size ≤ maxLen) := hsz
      clear hp d0 d1 d2 d3 hkp hnx hown hsz
      go_wp2_with (at_mapUpdate; refine wpList_mapUpdate_own _ rfl _ _ _ 33 rfl 9 28 keyed9 Yba.underlying33 R w.heap.size k (DD (ps.take k)) rfl (Hown.out.alloc _) (by unfold maxLen; omega) _ _ (.string p.nm) rfl rfl (keyOf9 p.name Hsz.out) (.held p.val) [] rfl ?_; intro w1 hown1 hg1)
      have HO : Hid (w1.ownsMap Yba.prog 9 R w.heap.size (k + 1) (DD (ps.take (k + 1)))) := by
        show w1.ownsMap Yba.prog 9 R w.heap.size (k + 1) (DD (ps.take (k + 1)))
        rw [HT.out, DD_snoc]; exact hown1
      have HB : Hid (Below w.heap.size w w1) := by
        have hz := Hnx.out.size
        exact ((Hnx.out.alloc hz _)).trans ⟨hg1.os, hg1.tape, hg1.output, hg1.size, fun j hj => hg1.block j (by simp; omega) (by simp; omega)⟩
      clear hown1 hg1
      go_roundw
      case rel => exact ⟨k + 1, by omega, by go_num, HO.out, HB.out⟩
      case measure => simp [intOf]; omega
    · obtain rfl : k = len := by omega
      have hz := hnx.size
      have hml := hown.lt
      go_wp2_with (refine wpList_built rfl 49 #[(3, .tmp 21)] rfl _ (by simp only [List.map_toArray, List.map_cons, List.map_nil]; exact built49 _ _ _) ?_)
      go_ret
      have hps : ps.take k = ps := List.take_of_length_le (by rw [Hlen.out]; exact Nat.le_refl _)
      rw [hps] at hown
      refine ⟨wr.heap.size + 1 + 1, rfl, by omega, ⟨⟨_, _, heap_three _ _ _ _⟩, ((hown.alloc _).alloc _).alloc _⟩, ((hnx.alloc hz _).alloc (by simp; omega) _).alloc (by simp; omega) _⟩
end Go.Proofs.Ybulkahau
