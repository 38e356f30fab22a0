import Derived.Test.YbulkahauRow
import Derived.ProofKit
import Derived.OpenShut
import Derived.ChangeAt
import Derived.WideShapes
import Derived.ShutString
import Derived.ChangeOld
import Derived.Below
import Derived.Deep.SlicePairs
namespace Go.Proofs.Ybulkahau
open Go.ChangeShapes Go.WideShapes Go.ChangeAt Go.RowKit
set_option linter.unusedVariables false

theorem laidOut : laidOutB Yba.prog = true := by kernel_rfl
theorem own : ownKnob Yba.prog.godebug = none := by kernel_rfl
theorem cells28 : Yba.prog.cellsOf 28 = 4 := by kernel_rfl
theorem cells9 : Yba.prog.cellsOf 9 = 1 := by kernel_rfl

set_option maxRecDepth 100000 in
/-- WHAT IS READ OF THE PEERS -/
theorem open_peers {H : Type} {enc : TypeId × Value → H} {w : World} {a : Option Addr} {len cap : Nat} {d : DataW H} {ps : List MemPlace} (h : DataW.Trod enc Yba.prog w 0 (fun _ => true) true 22 (.slice a len cap) d ps) (hlen : 0 < len) :
    ∃ b off xs, a = some ⟨b, off, none⟩ ∧ xs.length = len ∧ PeersAt w b off xs := by
  obtain ⟨fuel, hf⟩ := h
  rcases Deep.open_slice Yba.underlying22 hf with ⟨h0, _⟩ | ⟨x, l, c, m, n, D, Pl, hcs, _, hl, hm, hmm, _, hx⟩
  · simp [Value.cells] at h0
    omega
  · simp [Value.cells] at hcs
    obtain ⟨rfl, rfl, rfl⟩ := hcs
    simp only [if_true] at hmm
    subst hmm
    have each : ∀ i, i < m → ∃ p : Peer, p.name.size ≤ maxLen ∧
        w.cell? (x.add (i * 4)) = some (.string p.name) ∧ w.cell? (x.add (i * 4 + 1)) = some (.string p.pk) ∧ w.cell? (x.add (i * 4 + 2)) = some (.string p.ep) ∧ w.cell? (x.add (i * 4 + 3)) = some (.string p.ad) := by
      intro i hi
      obtain ⟨cs', h1, h2⟩ := hx i hi
      rw [cells28] at h1
      obtain ⟨_, hlen4, hc⟩ := World.cells?_some h1
      obtain ⟨xs, k, hk, hxy, _, hxl, hfd⟩ := DataW.trod_struct Yba.underlying28 h2
      have e0 := hc 0 (by omega)
      have e1 := hc 1 (by omega)
      have e2 := hc 2 (by omega)
      have e3 := hc 3 (by omega)
      rw [Deep.add_add] at e0 e1 e2 e3
      have g0 := hfd 0 _ rfl
      have g1 := hfd 1 _ rfl
      have g2 := hfd 2 _ rfl
      have g3 := hfd 3 _ rfl
      match xs, hxl, cs', hlen4, e0, e1, e2, e3, g0, g1, g2, g3 with
      | [y0, y1, y2, y3], _, [v0, v1, v2, v3], _, e0, e1, e2, e3, g0, g1, g2, g3 =>
        simp [cells9] at g0 g1 g2 g3 e0 e1 e2 e3
        obtain ⟨n0, q0, _, w0⟩ := DataW.trod_string Yba.underlying9 g0
        obtain ⟨n1, q1, _, w1⟩ := DataW.trod_string Yba.underlying9 g1
        obtain ⟨n2, q2, _, w2⟩ := DataW.trod_string Yba.underlying9 g2
        obtain ⟨n3, q3, _, w3⟩ := DataW.trod_string Yba.underlying9 g3
        simp only [List.cons.injEq, and_true] at q0 q1 q2 q3
        subst q0 q1 q2 q3
        exact ⟨⟨n0, n1, n2, n3⟩, w0, e0, e1, e2, e3⟩
    obtain ⟨b, off, spot⟩ := x
    have hspot : spot = none := by
      obtain ⟨_, _, c0, _⟩ := each 0 (by omega)
      simpa [Addr.add] using World.cell?_spot c0
    subst hspot
    have all : ∀ q, q ≤ m → ∃ xs : List Peer, xs.length = q ∧ PeersAt w b off xs := by
      intro q
      induction q with
      | zero => exact fun _ => ⟨[], rfl, fun k p hp => by simp at hp⟩
      | succ q ih =>
        intro hq
        obtain ⟨xs, hl, hxs⟩ := ih (by omega)
        obtain ⟨p, hz, c0, c1, c2, c3⟩ := each q (by omega)
        rw [add_plain] at c0 c1 c2 c3
        refine ⟨xs ++ [p], by simp [hl], fun k p' hp => ?_⟩
        by_cases hk : k < xs.length
        · rw [List.getElem?_append_left hk] at hp
          exact hxs k p' hp
        · rw [List.getElem?_append_right (by omega)] at hp
          have hk2 : k = q := by
            by_cases e : k = q
            · exact e
            · rw [List.getElem?_eq_none (by simp; omega)] at hp
              cases hp
          subst hk2
          simp [hl] at hp
          subst hp
          exact ⟨hz, c0, by simpa [Nat.add_assoc] using c1, by simpa [Nat.add_assoc] using c2, by simpa [Nat.add_assoc] using c3⟩
    obtain ⟨xs, hl', hxs⟩ := all _ hl
    exact ⟨b, off, xs, rfl, hl', hxs⟩
end Go.Proofs.Ybulkahau
