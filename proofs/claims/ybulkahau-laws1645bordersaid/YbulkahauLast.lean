import Derived.Test.YbulkahauRow
namespace Go.Proofs.Ybulkahau
open Go.RowKit Go.Maps
open Go.Proofs
set_option linter.unusedVariables false

theorem below_drewN' {B : Nat} {a w : World} (h : Below B a w) (n : Nat) : Below B a (w.drewN n) := ⟨h.os, h.tape, h.output, h.size, h.block⟩
theorem same_nm {a b : ByteArray} (h : (a.toList == b.toList) = true) : a.data.toList = b.data.toList := by
  have := (beq_iff_eq.1 h)
  rw [ByteArray.toList_eq, ByteArray.toList_eq] at this
  exact this
theorem other_nm {a b : ByteArray} (h : (a.toList == b.toList) = false) : a.data.toList ≠ b.data.toList := by
  intro e
  have : a.toList = b.toList := by rw [ByteArray.toList_eq, ByteArray.toList_eq]; exact e
  simp [this] at h

/-- the index says which peer is the last of that name -/
def LastIx (ps : List Peer) (k : Nat) (s : List UInt8) (ix : Int) : Prop := (ix = -1 ∧ lastOf (ps.take k) s = none) ∨ ∃ (j : Nat) (p : Peer), ix = j ∧ j < k ∧ ps[j]? = some p ∧ lastOf (ps.take k) s = some p

theorem take_snoc (ps : List Peer) (k : Nat) (p : Peer) (hp : ps[k]? = some p) : ps.take (k + 1) = ps.take k ++ [p] := by
  rw [List.take_add_one, hp]; rfl

theorem LastIx.hit {ps : List Peer} {k : Nat} {s : List UInt8} {ix : Int} {p : Peer} (h : LastIx ps k s ix) (hp : ps[k]? = some p) (he : p.nm = s) : LastIx ps (k + 1) s k :=
  .inr ⟨k, p, rfl, by omega, hp, by rw [take_snoc ps k p hp, lastOf_snoc, if_pos he]⟩
theorem LastIx.miss {ps : List Peer} {k : Nat} {s : List UInt8} {ix : Int} {p : Peer} (h : LastIx ps k s ix) (hp : ps[k]? = some p) (he : p.nm ≠ s) : LastIx ps (k + 1) s ix := by
  have : lastOf (ps.take (k + 1)) s = lastOf (ps.take k) s := by rw [take_snoc ps k p hp, lastOf_snoc, if_neg he]
  unfold LastIx
  rw [this]
  rcases h with h | ⟨j, p', h1, h2, h3, h4⟩
  · exact .inl h
  · exact .inr ⟨j, p', h1, by omega, h3, h4⟩

set_option maxHeartbeats 1600000 in
set_option maxRecDepth 100000 in
theorem last_any (ps : List Peer) (b off len cap : Nat) (name : ByteArray) (w : World) (hlen : ps.length = len) (hl : len ≤ 1024) (hps : PeersAt w b off ps) :
    Calls Yba.prog 8 #[.slice (some ⟨b, off, none⟩) len cap, .string name] w fun e w' => ∃ ix : Int, e = .returned (.int .i64 ix) ∧ LastIx ps len name.data.toList ix ∧ Below w.heap.size w w' := by
  have Hps : Hid (PeersAt w b off ps) := hps
  have Hlen : Hid (ps.length = len) := hlen
  clear hps hlen
  go_enter Yba.func8, Yba.ntmps8
  go_wp2
  go_loopw [5, 9] (fun x i wr => ∃ (k : Nat) (ix : Int), k ≤ len ∧ i = .int .i64 k ∧ x = .int .i64 ix ∧ LastIx ps k name.data.toList ix ∧ Below w.heap.size w wr) (fun _ i _ => len - (intOf i).toNat)
  case atStart => exact ⟨0, -1, Nat.zero_le _, rfl, rfl, .inl ⟨rfl, rfl⟩, Below.refl _ _⟩
  case round =>
    obtain ⟨k, ix, hk, rfl, rfl, hix, hnx⟩ := hrel
    by_cases hlt : k < len
    · have hlt' : (k : Int) < (len : Int) := by omega
      have hkp : k < ps.length := by rw [Hlen.out]; exact hlt
      obtain ⟨p, hp⟩ : ∃ p, ps[k]? = some p := ⟨ps[k], List.getElem?_eq_getElem hkp⟩
      obtain ⟨_, d0, _⟩ := Hps.out k p hp
      have e0 := (hnx.cell (p := ⟨b, off + k * 4, none⟩) (World.block_lt_of_cell? w _ d0)).trans d0
      have Hp : Hid (ps[k]? = some p) := hp
      have Hix : Hid (LastIx ps k name.data.toList ix) := hix
      have Hnx : Hid (Below w.heap.size w wr) := hnx
      clear hp hix hnx d0 hkp
      go_wp2
      · have he : (p.name.toList == name.toList) = true := by assumption
        go_roundw
        case rel => exact ⟨k + 1, k, by omega, by go_num, rfl, Hix.out.hit Hp.out (same_nm he), Hnx.out⟩
        case measure => simp [intOf]; omega
      · have he : (p.name.toList == name.toList) = false := by assumption
        go_roundw
        case rel => exact ⟨k + 1, ix, by omega, by go_num, rfl, Hix.out.miss Hp.out (other_nm he), Hnx.out⟩
        case measure => simp [intOf]; omega
    · obtain rfl : k = len := by omega
      go_wp2
      go_ret
      exact ⟨ix, rfl, hix, hnx⟩

theorem has_in {ps : List Peer} {k j : Nat} {q : Peer} {s : List UInt8} (hj : j < k) (hq : ps[j]? = some q) (he : q.nm = s) : has (DD (ps.take k)) (.string s) = true := by
  rw [has_DD, ← he]
  refine lastOf_isSome (List.mem_of_getElem? (i := j) ?_)
  rw [List.getElem?_take_of_lt hj, hq]
theorem has_out {ps : List Peer} {k : Nat} {s : List UInt8} (h : ∀ j q, j < k → ps[j]? = some q → q.nm ≠ s) : has (DD (ps.take k)) (.string s) = false := by
  rw [has_DD]
  cases hl : lastOf (ps.take k) s with
  | none => rfl
  | some p =>
    exfalso
    obtain ⟨hm, hn⟩ := lastOf_some hl
    obtain ⟨j, hj⟩ := List.getElem?_of_mem hm
    rw [List.getElem?_take] at hj
    split at hj
    · rename_i hjk
      exact h j p hjk hj hn
    · cases hj

set_option maxHeartbeats 1600000 in
set_option maxRecDepth 100000 in
theorem distinct_any (ps : List Peer) (b off len cap : Nat) (w : World) (hlen : ps.length = len) (hl : len ≤ 1024) (hps : PeersAt w b off ps) :
    Calls Yba.prog 7 #[.slice (some ⟨b, off, none⟩) len cap] w fun e w' => e = .returned (.int .i64 (size (DD ps) : Nat)) ∧ Below w.heap.size w w' := by
  have Hps : Hid (PeersAt w b off ps) := hps
  have Hlen : Hid (ps.length = len) := hlen
  clear hps hlen
  go_enter Yba.func7, Yba.ntmps7
  go_wp2
  go_loopw [3, 9] (fun c i wr => ∃ (k n : Nat), k ≤ len ∧ i = .int .i64 k ∧ c = .int .i64 n ∧ n ≤ k ∧ size (DD (ps.take k)) = n ∧ Below w.heap.size w wr) (fun _ i _ => len - (intOf i).toNat)
  case atStart => exact ⟨0, 0, Nat.zero_le _, rfl, rfl, Nat.zero_le _, rfl, Below.refl _ _⟩
  case round =>
    obtain ⟨k, n, hk, rfl, rfl, hnk, hn, hnx⟩ := hrel
    by_cases hlt : k < len
    · have hlt' : (k : Int) < (len : Int) := by omega
      have hkp : k < ps.length := by rw [Hlen.out]; exact hlt
      obtain ⟨p, hp⟩ : ∃ p, ps[k]? = some p := ⟨ps[k], List.getElem?_eq_getElem hkp⟩
      have Hc : Hid (w.cell? ⟨b, off + k * 4, none⟩ = some (.string p.name)) := (Hps.out k p hp).2.1
      have Hsz : Hid (size (DD (ps.take (k + 1))) = if has (DD (ps.take k)) (.string p.nm) then n else n + 1) := by
        show size (DD (ps.take (k + 1))) = _
        rw [take_snoc ps k p hp, DD_snoc, size_put (tidy_DD _), hn]
      have Hnx : Hid (Below w.heap.size w wr) := hnx
      clear hn hnx hp hkp
      go_wp2
      go_loopw [5, 6] (fun f i wr => ∃ j : Nat, j ≤ k ∧ f = .bool false ∧ i = .int .i64 j ∧ (∀ j' q, j' < j → ps[j']? = some q → q.nm ≠ p.nm) ∧ Below w.heap.size w wr) (fun _ i _ => k - (intOf i).toNat)
      case atStart => exact ⟨0, Nat.zero_le _, rfl, rfl, fun _ _ h => absurd h (by omega), Hnx.out⟩
      case round =>
        clear Hnx
        obtain ⟨j, hj, rfl, rfl, hno, hnx⟩ := hrel
        by_cases hjl : j < k
        · have hjl' : (j : Int) < (k : Int) := by omega
          have hjn : (j : Int) < (len : Int) := by omega
          have hjp : j < ps.length := by rw [Hlen.out]; omega
          obtain ⟨q, hq⟩ : ∃ q, ps[j]? = some q := ⟨ps[j], List.getElem?_eq_getElem hjp⟩
          obtain ⟨_, c0, _⟩ := Hps.out j q hq
          have d0 := (hnx.cell (p := ⟨b, off + j * 4, none⟩) (World.block_lt_of_cell? w _ c0)).trans c0
          have d1 := (hnx.cell (p := ⟨b, off + k * 4, none⟩) (World.block_lt_of_cell? w _ Hc.out)).trans Hc.out
          have Hno : Hid (∀ j' q, j' < j → ps[j']? = some q → q.nm ≠ p.nm) := hno
          have Hnx : Hid (Below w.heap.size w wr) := hnx
          have Hq : Hid (ps[j]? = some q) := hq
          clear hno hnx hq c0 hjp
          go_upto_region 9 with fail
          go_quiet (fail)
          have HB' : Hid (Below w.heap.size w (wr.drewN nq)) := below_drewN' Hnx.out _
          clear d0 d1 Hnx
          go_wp2
          · have he : (q.name.toList == p.name.toList) = true := by assumption
            have Hh : Hid (has (DD (ps.take k)) (.string p.nm) = true) := has_in hjl Hq.out (same_nm he)
            go_roundw
            case rel => exact ⟨k + 1, n, by omega, by go_num, rfl, by omega, by rw [Hsz.out, Hh.out]; rfl, HB'.out⟩
            case measure => simp [intOf]; omega
          · have he : (q.name.toList == p.name.toList) = false := by assumption
            have Hne : Hid (q.nm ≠ p.nm) := other_nm he
            go_roundw
            case rel =>
              refine ⟨j + 1, by omega, rfl, by go_num, fun j' q' hj' hq' => ?_, HB'.out⟩
              by_cases e : j' = j
              · subst e
                rw [Hq.out] at hq'
                rw [← Option.some.inj hq']
                exact Hne.out
              · exact Hno.out j' q' (by omega) hq'
            case measure => simp [intOf]; omega
        · obtain rfl : j = k := by omega
          have Hh : Hid (has (DD (ps.take j)) (.string p.nm) = false) := has_out hno
          have Hnx : Hid (Below w.heap.size w wr) := hnx
          clear hno hnx
          go_wp2
          go_roundw
          case rel => exact ⟨j + 1, n + 1, by omega, by go_num, by go_num, by omega, by rw [Hsz.out, Hh.out]; rfl, Hnx.out⟩
          case measure => simp [intOf]; omega
    · obtain rfl : k = len := by omega
      have hT : ps.take k = ps := List.take_of_length_le (by rw [Hlen.out]; exact Nat.le_refl _)
      rw [hT] at hn
      go_wp2
      go_ret
      exact ⟨by rw [hn]; rfl, hnx⟩
end Go.Proofs.Ybulkahau
