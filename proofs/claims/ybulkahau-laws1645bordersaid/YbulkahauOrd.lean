import Derived.Test.YbulkahauLast
import Derived.Sort.Walk0
import Derived.Deep.DeepCutAuto
import Derived.Deep.CutBlock
namespace Go.Proofs.Ybulkahau
open Go.RowKit Go.Maps
open Go.Proofs
set_option linter.unusedVariables false

theorem strict_at {ps : List Peer} {L : List (List UInt8)} (hL : L.Perm (strKeys (DD ps))) (hP : L.Pairwise (· ≤ ·)) {k : Nat} {p q : Peer} (hp : L[k]? = some p.nm) (hq : L[k + 1]? = some q.nm) : Op.bytesLess p.name.toList q.name.toList = true := by
  rw [bytesLess_eq, ByteArray.toList_eq, ByteArray.toList_eq]
  apply decide_eq_true
  have hn : L.Nodup := hL.nodup_iff.2 (strKeys_nodup ps)
  obtain ⟨h1, e1⟩ := List.getElem?_eq_some_iff.1 hp
  obtain ⟨h2, e2⟩ := List.getElem?_eq_some_iff.1 hq
  have hle := (List.pairwise_iff_getElem.1 hP) k (k + 1) h1 h2 (by omega)
  have hne := (List.pairwise_iff_getElem.1 hn) k (k + 1) h1 h2 (by omega)
  rw [e1, e2] at hle hne
  show p.nm < q.nm
  by_cases h : p.nm < q.nm
  · exact h
  · exact absurd (List.le_antisymm hle (List.not_lt.1 h)) hne

theorem last_at {ps : List Peer} {len : Nat} {p : Peer} {ix : Int} (h : LastIx ps len p.nm ix) (hl : ps.length = len) (hp : lastOf ps p.nm = some p) : ∃ j : Nat, ix = j ∧ j < len ∧ ps[j]? = some p := by
  have hT : ps.take len = ps := List.take_of_length_le (by omega)
  unfold LastIx at h
  rw [hT, hp] at h
  rcases h with ⟨_, h⟩ | ⟨j, p', h1, h2, h3, h4⟩
  · cases h
  · exact ⟨j, h1, h2, by rw [h3]; exact h4.symm⟩

set_option maxHeartbeats 1600000 in
set_option maxRecDepth 100000 in
theorem ord_any (ps : List Peer) (b off len cap : Nat) (w : World) (hlen : ps.length = len) (hl : len ≤ 1024) (h0 : 0 < len) (hps : PeersAt w b off ps) :
    Calls Yba.prog 3 #[.slice (some ⟨b, off, none⟩) len cap] w fun e w' => e = .returned (.bool true) ∧ Below w.heap.size w w' := by
  have hl' : (len : Int) ≤ 1024 := by omega
  have Hsz : Hid (∀ p ∈ ps, p.name.size ≤ maxLen) := hps.sizes
  have Hlp : Hid (ps.length = len) := hlen
  have Hps : Hid (PeersAt w b off ps) := hps
  clear hps hlen
  go_enter Yba.func3, Yba.ntmps3
  go_upto_region 5 with (first
    | (go_at_call 5; refine (dir_any ps b off len cap w Hlp.out hl Hps.out).mono ?_; rintro e w1 ⟨db, rfl, hdb, hd, hb1⟩)
    | (go_at_call 6; refine (peers_any db w.heap.size len ps (by rw [Hlp.out]; exact hl) Hsz.out w1 hd).mono ?_; rintro e w2 ⟨v, L, rfl, hL, hP, hrow, hd2, hb2⟩; obtain ⟨g, cap2, rfl, hg1, hg2, hrat⟩ := row_at hrow hL Hsz.out (keys_pos hL (by rw [Hlp.out]; exact h0))))
  have hNs : L.length = size (DD ps) := by rw [hL.length_eq, strKeys_length]
  have hN : L.length ≤ 1024 := by rw [hNs]; exact Nat.le_trans (size_DD_le ps) (by rw [Hlp.out]; exact hl)
  have HB2 : Hid (Below w.heap.size w w2) := hb1.trans (hb2.mono hb1.size)
  have Hrat : Hid (RowAt w2 g ps L) := hrat
  have HP2 : Hid (PeersAt w2 b off ps) := Hps.out.kept HB2.out
  have HL : Hid (L.Perm (strKeys (DD ps))) := hL
  have HP : Hid (L.Pairwise (· ≤ ·)) := hP
  have hws : w.heap.size ≤ w2.heap.size := HB2.out.size
  have Hdi := distinct_any ps b off len cap w2 Hlp.out hl HP2.out
  rw [← hNs] at Hdi
  generalize hNe : L.length = N at *
  have HNe : Hid (L.length = N) := hNe
  clear hNe hrat hd2 hd hb1 hb2 hrow hP hL Hps hdb hg1 hg2 hNs
  go_wp2_with (go_at_call 7; refine Hdi.mono ?_; rintro e w3 ⟨rfl, hb3⟩)
  have Hb3 : Hid (Below w2.heap.size w2 w3) := hb3
  clear Hdi hb3
  go_loopw [21] (fun i wr => ∃ k : Nat, k ≤ N ∧ i = .int .i64 k ∧ Below w2.heap.size w2 wr) (fun i _ => N - (intOf i).toNat)
  case atStart => exact ⟨0, Nat.zero_le _, rfl, Hb3.out⟩
  case round =>
    obtain ⟨k, hk, rfl, hnx⟩ := hrel
    clear Hb3
    by_cases hlt : k < N
    · have hlt' : (k : Int) < (N : Int) := by omega
      obtain ⟨s, hs⟩ : ∃ s, L[k]? = some s := ⟨L[k]'(by rw [HNe.out]; exact hlt), List.getElem?_eq_getElem _⟩
      obtain ⟨p, hp, hpn, hpz, c0, c1, c2, c3⟩ := Hrat.out k s hs
      have lb : g < w2.heap.size := World.block_lt_of_cell? w2 _ c0
      have Hnx : Hid (Below w2.heap.size w2 wr) := hnx
      have HC : Hid (∀ wx, Below w2.heap.size w2 wx → wx.cell? ⟨g, k * 4, none⟩ = some (.string p.name) ∧ wx.cell? ⟨g, k * 4 + 1, none⟩ = some (.string p.pk) ∧ wx.cell? ⟨g, k * 4 + 2, none⟩ = some (.string p.ep) ∧ wx.cell? ⟨g, k * 4 + 3, none⟩ = some (.string p.ad)) :=
        fun wx hb => ⟨(hb.cell (p := ⟨g, _, none⟩) lb).trans c0, (hb.cell (p := ⟨g, _, none⟩) lb).trans c1, (hb.cell (p := ⟨g, _, none⟩) lb).trans c2, (hb.cell (p := ⟨g, _, none⟩) lb).trans c3⟩
      have HpL : Hid (L[k]? = some p.nm) := by rw [hpn]; exact hs
      have Hp : Hid (lastOf ps p.nm = some p) := by rw [hpn]; exact hp
      clear hs hp hpn c0 c1 c2 c3 hnx
      go_upto_region 10 with fail
      go_cut [40] (fun t wx => t = .bool false ∧ ∃ m, wx = wr.drewN m)
      case first =>
        have d0 := (HC.out wr Hnx.out).1
        by_cases hk0 : k = 0
        · subst hk0
          go_quiet (fail)
          go_wp2_with fail
          go_meet
          case rel => exact ⟨rfl, _, rfl⟩
        · obtain ⟨k', rfl⟩ : ∃ k', k = k' + 1 := ⟨k - 1, by omega⟩
          have hd : decide ((0 : Int) < ((k' + 1 : Nat) : Int)) = true := decide_eq_true (by omega)
          obtain ⟨s', hs'⟩ : ∃ s, L[k']? = some s := ⟨L[k']'(by rw [HNe.out]; omega), List.getElem?_eq_getElem _⟩
          obtain ⟨p', _, hpn', _, c0', _⟩ := Hrat.out k' s' hs'
          have hst := strict_at HL.out HP.out (by rw [hpn']; exact hs') HpL.out
          have d1 := (Hnx.out.cell (p := ⟨g, k' * 4, none⟩) lb).trans c0'
          clear hs' hpn' c0'
          go_quiet (fail)
          go_wp2_with fail
          go_meet
          case rel => exact ⟨rfl, _, rfl⟩
      case rest =>
        obtain ⟨rfl, m, rfl⟩ := hcut
        have Hbm : Hid (Below w2.heap.size w2 (wr.drewN m)) := below_drewN' Hnx.out _
        have Hla := last_any ps b off len cap p.name (wr.drewN m) Hlp.out hl (HP2.out.kept Hbm.out)
        have d0 := (HC.out wr Hnx.out).1
        go_upto_region 13 with (go_at_call 8; refine Hla.mono ?_; rintro e w4 ⟨ix, rfl, hix, hb4⟩)
        have Hb4 : Hid (Below w2.heap.size w2 w4) := Hbm.out.trans (hb4.mono Hbm.out.size)
        obtain ⟨j, rfl, hjl, hpj⟩ := last_at hix Hlp.out Hp.out
        clear d0 hb4 Hla hix
        obtain ⟨d0, d1, d2, d3⟩ := HC.out w4 Hb4.out
        obtain ⟨_, a0, a1, a2, a3⟩ := (HP2.out.kept Hb4.out) j p hpj
        have hj' : (j : Int) < (len : Int) := by omega
        have hjd : decide ((j : Int) < 0) = false := decide_eq_false (by omega)
        clear hpj
        go_quiet (fail)
        have Hb5 : Hid (Below w2.heap.size w2 (w4.drewN nq)) := below_drewN' Hb4.out _
        clear d0 d1 d2 d3 a0 a1 a2 a3 Hb4 Hbm
        go_wp2
        go_roundw
        case rel => exact ⟨k + 1, by omega, by go_num, Hb5.out⟩
        case measure => simp [intOf]; omega
    · obtain rfl : k = N := by omega
      go_wp2
      go_ret
      exact ⟨rfl, HB2.out.trans (hnx.mono hws)⟩
end Go.Proofs.Ybulkahau
