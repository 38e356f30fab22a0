import Derived.Test.YbulkahauSorted
namespace Go.Proofs.Ybulkahau
open Go.RowKit Go.Maps
open Go.MuLone
open Go.Proofs
set_option linter.unusedVariables false

theorem row_unlocked {w : World} {base db : Nat} {e size n : Nat} {v : Value} {xs : List Value} (h : w.ownsRow base e size v n xs) (hdb : db < base) (u : Value) : (w.setCell ⟨db, 3, none⟩ u).ownsRow base e size v n xs := by
  refine h.kept (row := some db) ⟨rfl, rfl, rfl, by simp, fun k _ hne => Below.heap_setCell _ _ _ _ (fun e => hne (by rw [e]))⟩ ?_
  by_cases hv : v.ownBlock = none
  · exact .inl hv
  · right
    intro e
    have := (h.lt db e).1
    omega

set_option maxHeartbeats 1600000 in
set_option maxRecDepth 100000 in
theorem peers_any (db mb n : Nat) (ps : List Peer) (hlen : ps.length ≤ 1024) (hsz : ∀ p ∈ ps, p.name.size ≤ maxLen) (w : World) (hd : Dir w db mb n ps) :
    Calls Yba.prog 6 #[.pointer (some ⟨db, 0, none⟩)] w fun e w' => ∃ v L, e = .returned v ∧ L.Perm (strKeys (DD ps)) ∧ L.Pairwise (· ≤ ·) ∧ w'.ownsRow w.heap.size 28 4 v L.length (outCells ps L) ∧ Dir w' db mb n ps ∧ Below w.heap.size w w' := by
  obtain ⟨c3, c6, f3, hl⟩ := hd.cell
  have hne := hd.ne
  have hown1 := hd.own.setCell (a := ⟨db, 3, none⟩) hne (.int .i32 1)
  have Hown : Hid ((w.setCell ⟨db, 3, none⟩ (.int .i32 1)).ownsMap Yba.prog 9 R mb n (DD ps)) := hown1
  have Hd : Hid (Dir w db mb n ps) := hd
  have cl : (w.setCell ⟨db, 3, none⟩ (.int .i32 1)).cell? ⟨db, 3, none⟩ = some (.int .i32 1) := World.cell?_setCell_same w ⟨db, 3, none⟩ (.int .i32 1) c3
  clear hown1 hd
  go_enter_defers Yba.func6, Yba.ntmps6
  go_wp2_with (first | (go_at_call 10; refine (lock_free Yba.muLib ⟨db, 3, none⟩ w c3 f3).mono ?_; rintro e w' ⟨rfl, rfl⟩) | (go_at_call 12; refine (sorted_any mb n ps _ Hown.out hlen hsz).mono ?_; rintro e w1 ⟨v, L, rfl, hL, hP, hrow, hB⟩))
  have hB' : Below w.heap.size (w.setCell ⟨db, 3, none⟩ (.int .i32 1)) w1 := by simpa using hB
  have hrow' : w1.ownsRow w.heap.size 28 4 v L.length (outCells ps L) := by simpa using hrow
  refine leaves_cons (f := 11) (args := #[.pointer (some ⟨db, 3, none⟩)]) (by simp) (by simp [go_sem]) ?_
  refine (unlock_deferred Yba.muLib ⟨db, 3, none⟩ .returning _ ((hB'.cell (p := ⟨db, 3, none⟩) hl).trans cl) ((hB'.frozen (p := ⟨db, 3, none⟩) hl).trans (by simp [f3]))).mono ?_
  rintro e u' w'' ⟨rfl, rfl, rfl⟩
  have hR := relock Hd.out hB'
  have hrow2 := row_unlocked hrow' hl (.int .i32 0)
  clear Hd Hown cl c6 c3 f3 hB hB' hrow hrow'
  refine ⟨v, ?_, v, L, rfl, hL, hP, hrow2, hR⟩
  simp [results, Yba.results6, go_sem]
end Go.Proofs.Ybulkahau
