import Derived.Test.YbulkahauDir
import Derived.Test.YbulkahauLocks
import Derived.Conc.MuLone
import Derived.WalkSpells
namespace Go.Proofs.Ybulkahau
open Go.RowKit Go.Maps
open Go.MuLone
set_option linter.unusedVariables false

theorem zero28 (w : World) : (zeroValue 28).run Yba.prog w = .ok (.agg #[.string ⟨#[]⟩, .string ⟨#[]⟩, .string ⟨#[]⟩, .string ⟨#[]⟩]) w := by kernel_rfl

theorem wpList_look_ok {w : World} {ops : Array Oper} {rest : List Oper} {o : Oper} {a : Act} {Q : Exit → Act → World → Prop} (hg : o.guard = none) (m x : Operand) (hop : o.op = Op.lookup 33 m x true)
    (mb n : Nat) (ps : List Peer) (hm : a.eval m = .map (some mb)) (hown : w.ownsMap Yba.prog 9 R mb n (DD ps)) (name : ByteArray) (hx : a.eval x = .string name) (hsz : name.size ≤ maxLen) (p : Peer) (hp : lastOf ps name.data.toList = some p)
    (hK : wpList Yba.prog ops Q rest (a.put o.dst (.tuple #[.agg #[.string p.name, .string p.pk, .string p.ep, .string p.ad], .bool true])) w) : wpList Yba.prog ops Q (o :: rest) a w := by
  refine wpList_lookup_own_ok w hg m x 33 hop 9 28 keyed9 Yba.underlying33 R (zero28 w) (.held (.agg #[.string ⟨#[]⟩, .string ⟨#[]⟩, .string ⟨#[]⟩, .string ⟨#[]⟩])) [] rfl mb n (DD ps) hm hown (.string name) (.string name.data.toList) hx (keyOf9 name hsz) ?_
  intro v pl hv
  rw [atKey_DD, hp] at hv
  simp only [R, Option.some.injEq, Prod.mk.injEq, DataW.held.injEq] at hv
  obtain ⟨rfl, _⟩ := hv
  rw [has_DD, hp]
  exact hK

theorem dir3 (x m y : Value) : (dirCells x m y)[3]? = some (.int .i32 0) := by simp [dirCells]
theorem dir6 (x m y : Value) : (dirCells x m y)[6]? = some m := by simp [dirCells]

theorem Dir.cell {w : World} {db mb n : Nat} {ps : List Peer} (h : Dir w db mb n ps) : w.cell? ⟨db, 3, none⟩ = some (.int .i32 0) ∧ w.cell? ⟨db, 6, none⟩ = some (.map (some mb)) ∧ w.frozen? ⟨db, 3, none⟩ = false ∧ db < w.heap.size := by
  obtain ⟨x, y, hb⟩ := h.blk
  refine ⟨?_, ?_, frozen_of_row w db 3 _ _ hb, (Array.getElem?_eq_some_iff.1 hb).1⟩
  · rw [cell_of_row w db 3 _ _ _ hb]; exact dir3 _ _ _
  · rw [cell_of_row w db 6 _ _ _ hb]; exact dir6 _ _ _

theorem Dir.ne {w : World} {db mb n : Nat} {ps : List Peer} (h : Dir w db mb n ps) : mb ≠ db := by
  obtain ⟨x, y, hb⟩ := h.blk
  obtain ⟨es, cl, hm, _⟩ := h.own
  intro e
  subst e
  rw [hb] at hm
  simp at hm

/-- nothing but new blocks: the Directory stands -/
theorem Dir.kept {w w' : World} {db mb n : Nat} {ps : List Peer} (h : Dir w db mb n ps) (hb : Below w.heap.size w w') : Dir w' db mb n ps := by
  obtain ⟨x, y, hbk⟩ := h.blk
  exact ⟨⟨x, y, by rw [hb.block db h.cell.2.2.2]; exact hbk⟩, h.own.kept (row := none) ⟨hb.os, hb.tape, hb.output, hb.size, fun j hj _ => hb.block j hj⟩ (by simp)⟩

/-- the lock taken, new blocks, the lock let go: the Directory stands, and so does all else -/
theorem relock {w w1 : World} {db mb n : Nat} {ps : List Peer} (h : Dir w db mb n ps) (hb : Below w.heap.size (w.setCell ⟨db, 3, none⟩ (.int .i32 1)) w1) :
    Dir (w1.setCell ⟨db, 3, none⟩ (.int .i32 0)) db mb n ps ∧ Below w.heap.size w (w1.setCell ⟨db, 3, none⟩ (.int .i32 0)) := by
  obtain ⟨x, y, hbk⟩ := h.blk
  have hdl := h.cell.2.2.2
  have h1 : (w.setCell ⟨db, 3, none⟩ (.int .i32 1)).heap[db]? = some (.cells ((dirCells x (.map (some mb)) y).setIfInBounds 3 (.int .i32 1)) 49 (0, 0)) := heap_setCell_same w db 3 _ 49 _ hbk
  have h2 : w1.heap[db]? = some (.cells ((dirCells x (.map (some mb)) y).setIfInBounds 3 (.int .i32 1)) 49 (0, 0)) := by rw [hb.block db hdl]; exact h1
  have h3 := heap_setCell_same w1 db 3 _ 49 (.int .i32 0) h2
  have h4 : ((dirCells x (.map (some mb)) y).setIfInBounds 3 (.int .i32 1)).setIfInBounds 3 (.int .i32 0) = dirCells x (.map (some mb)) y := by
    apply Array.ext_getElem?
    intro i
    simp only [Array.getElem?_setIfInBounds]
    by_cases hi : 3 = i
    · subst hi
      simp [dirCells]
    · simp [hi]
  rw [h4] at h3
  have hB : Below w.heap.size w (w1.setCell ⟨db, 3, none⟩ (.int .i32 0)) := by
    refine ⟨hb.os, hb.tape, hb.output, ?_, ?_⟩
    · have := hb.size; simp at this ⊢; exact this
    · intro k hk
      by_cases e : k = db
      · subst e; rw [h3]; exact hbk.symm
      · rw [Below.heap_setCell _ _ _ _ e, hb.block k hk, Below.heap_setCell _ _ _ _ e]
  exact ⟨h.kept hB, hB⟩

set_option maxHeartbeats 1600000 in
set_option maxRecDepth 100000 in
theorem peer_any (db mb n : Nat) (ps : List Peer) (name : ByteArray) (hsz : name.size ≤ maxLen) (p : Peer) (hp : lastOf ps name.data.toList = some p) (w : World) (hd : Dir w db mb n ps) :
    Calls Yba.prog 9 #[.pointer (some ⟨db, 0, none⟩), .string name] w fun e w' => e = .returned (.tuple #[.agg #[.string p.name, .string p.pk, .string p.ep, .string p.ad], .bool true]) ∧ Dir w' db mb n ps ∧ Below w.heap.size w w' := by
  obtain ⟨c3, c6, f3, hl⟩ := hd.cell
  have hne := hd.ne
  have hl1 : db < w.heap.size + 1 := by omega
  have hown1 := hd.own.setCell (a := ⟨db, 3, none⟩) hne (.int .i32 1)
  have Hown : Hid ((w.setCell ⟨db, 3, none⟩ (.int .i32 1)).ownsMap Yba.prog 9 R mb n (DD ps)) := hown1
  have Hd : Hid (Dir w db mb n ps) := hd
  have Hp : Hid (lastOf ps name.data.toList = some p) := hp
  have cl : (w.setCell ⟨db, 3, none⟩ (.int .i32 1)).cell? ⟨db, 3, none⟩ = some (.int .i32 1) := World.cell?_setCell_same w ⟨db, 3, none⟩ (.int .i32 1) c3
  clear hown1 hd hp
  go_enter_defers Yba.func9, Yba.ntmps9
  go_wp2_with (first | (go_at_call 10; refine (lock_free Yba.muLib ⟨db, 3, none⟩ _ ?_ ?_).mono ?_ ; rotate_left 2; rintro e w' ⟨rfl, rfl⟩) | (at_lookup; refine wpList_look_ok rfl _ _ rfl mb n ps rfl ((Hown.out.alloc _)) name rfl hsz p Hp.out ?_))
  rotate_left
  · exact (World.cell?_of_block (Below.heap_alloc w _ db hl)).trans c3
  · exact (World.frozen?_of_block (Below.heap_alloc w _ db hl)).trans f3
  refine leaves_cons (f := 11) (args := #[.pointer (some ⟨db, 3, none⟩)]) (by simp) (by simp [go_sem]) ?_
  have hB : Below w.heap.size (w.setCell ⟨db, 3, none⟩ (.int .i32 1)) (((w.setCell ⟨db, 3, none⟩ (.int .i32 1)).alloc (.cells #[.string p.name, .string p.pk, .string p.ep, .string p.ad] 28)).alloc (.cells #[.string p.name, .string p.pk, .string p.ep, .string p.ad] 28)) :=
    ((Below.refl _ _).alloc (by simp) _).alloc (by simp) _
  refine (unlock_deferred Yba.muLib ⟨db, 3, none⟩ .returning _ ((hB.cell (p := ⟨db, 3, none⟩) hl).trans cl) ((hB.frozen (p := ⟨db, 3, none⟩) hl).trans (by simp [f3]))).mono ?_
  rintro e u' w'' ⟨rfl, rfl, rfl⟩
  have hR := relock Hd.out hB
  clear Hd Hown Hp cl c6 c3 f3 hB
  refine ⟨.tuple #[.agg #[.string p.name, .string p.pk, .string p.ep, .string p.ad], .bool true], ?_, rfl, hR⟩
  simp [results, Yba.results9, go_sem]
end Go.Proofs.Ybulkahau
