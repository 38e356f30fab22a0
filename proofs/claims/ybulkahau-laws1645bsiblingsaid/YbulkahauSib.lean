import Derived.Test.YbulkahauRow
namespace Go.Proofs.Ybulkahau
open Go.RowKit Go.Maps
open Go.Proofs
set_option linter.unusedVariables false

theorem below_drewN {B : Nat} {a w : World} (h : Below B a w) (n : Nat) : Below B a (w.drewN n) := ⟨h.os, h.tape, h.output, h.size, h.block⟩

theorem nm_eq {p q : Peer} (h : (p.name.toList == q.name.toList) = true) : p.nm = q.nm := by
  have := (beq_iff_eq.1 h)
  rw [ByteArray.toList_eq, ByteArray.toList_eq] at this
  exact this
theorem nm_ne {p q : Peer} (h : (p.name.toList == q.name.toList) = false) : p.nm ≠ q.nm := by
  intro e
  have : p.name.toList = q.name.toList := by rw [ByteArray.toList_eq, ByteArray.toList_eq]; exact e
  simp [this] at h

theorem hps_kept {w w' : World} {b off : Nat} {ps : List Peer} (h : PeersAt w b off ps) (hb : Below w.heap.size w w') : PeersAt w' b off ps := h.kept hb

set_option maxHeartbeats 1600000 in
set_option maxRecDepth 100000 in
theorem sib_any (ps : List Peer) (b off len cap : Nat) (w : World) (hlen : ps.length = len) (hl : len ≤ 1024) (h0 : 0 < len) (hps : PeersAt w b off ps) :
    Calls Yba.prog 4 #[.slice (some ⟨b, off, none⟩) len cap] w fun e w' => e = .returned (.bool true) ∧ Below w.heap.size w w' := by
  have hl' : (len : Int) ≤ 1024 := by omega
  have Hsz : Hid (∀ p ∈ ps, p.name.size ≤ maxLen) := hps.sizes
  have Hlp : Hid (ps.length = len) := hlen
  have Hps : Hid (PeersAt w b off ps) := hps
  clear hps hlen
  go_enter Yba.func4, Yba.ntmps4
  go_upto_region 5 with (first
    | (go_at_call 5; refine (dir_any ps b off len cap w Hlp.out hl Hps.out).mono ?_; rintro e w1 ⟨db, rfl, hdb, hd, hb1⟩)
    | (go_at_call 6; refine (peers_any db w.heap.size len ps (by rw [Hlp.out]; exact hl) Hsz.out w1 hd).mono ?_; rintro e w2 ⟨v, L, rfl, hL, hP, hrow, hd2, hb2⟩; obtain ⟨g, cap2, rfl, hg1, hg2, hrat⟩ := row_at hrow hL Hsz.out (keys_pos hL (by rw [Hlp.out]; exact h0))))
  have hN : L.length ≤ 1024 := by rw [hL.length_eq, strKeys_length]; exact Nat.le_trans (size_DD_le ps) (by rw [Hlp.out]; exact hl)
  have HB2 : Hid (Below w.heap.size w w2) := hb1.trans (hb2.mono hb1.size)
  have Hrat : Hid (RowAt w2 g ps L) := hrat
  have Hd2 : Hid (Dir w2 db w.heap.size len ps) := hd2
  have HLn : Hid (∃ N, L.length = N) := ⟨_, rfl⟩
  have HP2 : Hid (PeersAt w2 b off ps) := hps_kept Hps.out HB2.out
  have HL : Hid (L.Perm (strKeys (DD ps))) := hL
  have hws : w.heap.size ≤ w2.heap.size := HB2.out.size
  generalize hNe : L.length = N at *
  have HNe : Hid (L.length = N) := hNe
  clear hNe HLn hrat hd2 hd hb1 hb2 hrow hP hL Hps hdb hg1 hg2
  go_wp2
  go_loopw [20] (fun i wr => ∃ k : Nat, k ≤ N ∧ i = .int .i64 k ∧ Dir wr db w.heap.size len ps ∧ Below w2.heap.size w2 wr) (fun i _ => N - (intOf i).toNat)
  case atStart => exact ⟨0, Nat.zero_le _, rfl, Hd2.out, Below.refl _ _⟩
  case round =>
    obtain ⟨k, hk, rfl, hdr, hnx⟩ := hrel
    by_cases hlt : k < N
    · have hlt' : (k : Int) < (N : Int) := by omega
      obtain ⟨s, hs⟩ : ∃ s, L[k]? = some s := ⟨L[k]'(by rw [HNe.out]; exact hlt), List.getElem?_eq_getElem _⟩
      have hR := Hrat.out.kept hnx
      obtain ⟨p, hp, hpn, hpz, c0, c1, c2, c3⟩ := hR k s hs
      have hp' : lastOf ps p.name.data.toList = some p := by rw [← hp, ← hpn]; rfl
      have Hpe : Hid (∀ w, Dir w db w.heap.size len ps → True) := fun _ _ => trivial
      have hz := hnx.size
      have lb : g < wr.heap.size := World.block_lt_of_cell? wr _ c0
      have Hnx : Hid (Below w2.heap.size w2 wr) := hnx
      clear hR hs hp hpn hnx
      go_upto_region 9 with (go_at_call 9; refine (peer_any db w.heap.size len ps p.name hpz p hp' wr hdr).mono ?_; rintro e w3 ⟨rfl, hd3, hb3⟩)
      have hz3 := hb3.size
      have hbA : Below wr.heap.size wr (w3.alloc (.cells #[.string p.name, .string p.pk, .string p.ep, .string p.ad] 28)) := hb3.alloc hz3 _
      have d0 := (hbA.cell (p := ⟨g, k * 4, none⟩) lb).trans c0
      have d1 := (hbA.cell (p := ⟨g, k * 4 + 1, none⟩) lb).trans c1
      have d2 := (hbA.cell (p := ⟨g, k * 4 + 2, none⟩) lb).trans c2
      have d3 := (hbA.cell (p := ⟨g, k * 4 + 3, none⟩) lb).trans c3
      have HdA : Hid (Dir (w3.alloc (.cells #[.string p.name, .string p.pk, .string p.ep, .string p.ad] 28)) db w.heap.size len ps) := hd3.kept ((Below.refl _ _).alloc (Nat.le_refl _) _)
      have HbA : Hid (Below w2.heap.size w2 (w3.alloc (.cells #[.string p.name, .string p.pk, .string p.ep, .string p.ad] 28))) := Hnx.out.trans (hbA.mono hz)
      have a0 : (w3.alloc (.cells #[.string p.name, .string p.pk, .string p.ep, .string p.ad] 28)).cell? ⟨w3.heap.size, 0, none⟩ = some (.string p.name) := by simp
      have a1 : (w3.alloc (.cells #[.string p.name, .string p.pk, .string p.ep, .string p.ad] 28)).cell? ⟨w3.heap.size, 1, none⟩ = some (.string p.pk) := by simp
      have a2 : (w3.alloc (.cells #[.string p.name, .string p.pk, .string p.ep, .string p.ad] 28)).cell? ⟨w3.heap.size, 2, none⟩ = some (.string p.ep) := by simp
      have a3 : (w3.alloc (.cells #[.string p.name, .string p.pk, .string p.ep, .string p.ad] 28)).cell? ⟨w3.heap.size, 3, none⟩ = some (.string p.ad) := by simp
      clear hbA hd3 hb3 hdr c0 c1 c2 c3 Hnx Hpe
      generalize w3.alloc (.cells #[.string p.name, .string p.pk, .string p.ep, .string p.ad] 28) = wq at *
      generalize w3.heap.size = q at *
      go_quiet (fail)
      have HdB : Hid (Dir (wq.drewN nq) db w.heap.size len ps) := HdA.out.kept (below_drewN (Below.refl _ _) _)
      have HbB : Hid (Below w2.heap.size w2 (wq.drewN nq)) := below_drewN HbA.out _
      clear d0 d1 d2 d3 a0 a1 a2 a3 HdA HbA hp' hpz hz lb hz3
      go_wp2
      go_roundw
      case rel => exact ⟨k + 1, by omega, by go_num, HdB.out, HbB.out⟩
      case measure => simp [intOf]; omega
    · obtain rfl : k = N := by omega
      have Hnx : Hid (Below w2.heap.size w2 wr) := hnx
      clear hnx hdr Hd2
      go_wp2
      go_loopw [46] (fun i wr => ∃ m : Nat, m ≤ len ∧ i = .int .i64 m ∧ Below w2.heap.size w2 wr) (fun i _ => len - (intOf i).toNat)
      case atStart => exact ⟨0, Nat.zero_le _, rfl, Hnx.out⟩
      case round =>
        clear Hnx
        obtain ⟨m, hm, rfl, hnx⟩ := hrel
        by_cases hlt : m < len
        · have hlt' : (m : Int) < (len : Int) := by omega
          have hmp : m < ps.length := by rw [Hlp.out]; exact hlt
          obtain ⟨p, hp⟩ : ∃ p, ps[m]? = some p := ⟨ps[m], List.getElem?_eq_getElem hmp⟩
          have Hc : Hid (w2.cell? ⟨b, off + m * 4, none⟩ = some (.string p.name)) := (HP2.out m p hp).2.1
          have Hin : Hid (p.nm ∈ L) := HL.out.mem_iff.2 ((mem_strKeys ps p.nm).2 (lastOf_isSome (List.mem_of_getElem? hp)))
          have Hnx : Hid (Below w2.heap.size w2 wr) := hnx
          clear hnx hp hmp
          go_wp2
          go_loopw [9, 51] (fun f i wr => ∃ j : Nat, j ≤ k ∧ f = .bool false ∧ i = .int .i64 j ∧ (∀ j', j' < j → L[j']? ≠ some p.nm) ∧ Below w2.heap.size w2 wr) (fun _ i _ => k - (intOf i).toNat)
          case atStart => exact ⟨0, Nat.zero_le _, rfl, rfl, fun _ h => absurd h (by omega), Hnx.out⟩
          case round =>
            clear Hnx
            obtain ⟨j, hj, rfl, rfl, hno, hnx⟩ := hrel
            by_cases hjl : j < k
            · have hjl' : (j : Int) < (k : Int) := by omega
              obtain ⟨s, hs⟩ : ∃ s, L[j]? = some s := ⟨L[j]'(by rw [HNe.out]; exact hjl), List.getElem?_eq_getElem _⟩
              obtain ⟨p', _, hpn, _, c0, _⟩ := Hrat.out j s hs
              have d0 := (hnx.cell (p := ⟨g, j * 4, none⟩) (World.block_lt_of_cell? w2 _ c0)).trans c0
              have d1 := (hnx.cell (p := ⟨b, off + m * 4, none⟩) (World.block_lt_of_cell? w2 _ Hc.out)).trans Hc.out
              have Hno : Hid (∀ j', j' < j → L[j']? ≠ some p.nm) := hno
              have Hnx : Hid (Below w2.heap.size w2 wr) := hnx
              have Hs : Hid (L[j]? = some p'.nm) := by rw [hpn]; exact hs
              clear hno hnx hs hpn c0
              go_upto_region 19 with fail
              go_quiet (fail)
              have HB' : Hid (Below w2.heap.size w2 (wr.drewN nq)) := below_drewN Hnx.out _
              clear d0 d1 Hnx
              go_wp2
              · go_roundw
                case rel => exact ⟨m + 1, by omega, by go_num, HB'.out⟩
                case measure => simp [intOf]; omega
              · have he' : (p'.name.toList == p.name.toList) = false := by assumption
                have Hne : Hid (p'.nm ≠ p.nm) := nm_ne he'
                go_roundw
                case rel =>
                  refine ⟨j + 1, by omega, rfl, by go_num, fun j' hj' => ?_, HB'.out⟩
                  by_cases e : j' = j
                  · subst e
                    rw [Hs.out]
                    intro e
                    exact Hne.out (Option.some.inj e)
                  · exact Hno.out j' (by omega)
                case measure => simp [intOf]; omega
            · exfalso
              obtain rfl : j = k := by omega
              obtain ⟨q, hq, e⟩ := List.getElem_of_mem Hin.out
              exact hno q (by rw [← HNe.out]; exact hq) (by rw [List.getElem?_eq_getElem hq, e])
        · obtain rfl : m = len := by omega
          go_wp2
          go_ret
          exact ⟨rfl, HB2.out.trans (hnx.mono hws)⟩
end Go.Proofs.Ybulkahau
