/-
  PLAIN WORDS for seat b1645a: the peers, the map's datum that a list of peers fills, what it says at a name. No walk.
-/
import Derived.Test.YbulkahauRows
import Derived.WalkKit
import Derived.Maps.OwnSet
import Derived.Maps.Views
import Derived.Sort.KeysCollected
namespace Go.Proofs.Ybulkahau
open Go.RowKit Go.Maps
open Go.Proofs (encStr)
set_option linter.unusedVariables false

structure Peer where
  name : ByteArray
  pk : ByteArray
  ep : ByteArray
  ad : ByteArray

def Peer.nm (p : Peer) : List UInt8 := p.name.data.toList
def Peer.val (p : Peer) : Value := .agg #[.string p.name, .string p.pk, .string p.ep, .string p.ad]
def Peer.cells (p : Peer) : List Value := [.string p.name, .string p.pk, .string p.ep, .string p.ad]

/-- how an element of the map is told: by itself -/
def R (v : Value) : Option (DataW Value × List MemPlace) := some (.held v, [])

/-- what the map reads as when the peers ps have been put in, in their order -/
def DD (ps : List Peer) : DataW Value := ps.foldl (fun D p => D.put (.string p.nm) (.held p.val)) (.map [])
/-- the last peer of that name -/
def lastOf (ps : List Peer) (s : List UInt8) : Option Peer := ps.foldl (fun o p => if p.nm = s then some p else o) none

theorem DD_snoc (ps : List Peer) (p : Peer) : DD (ps ++ [p]) = (DD ps).put (.string p.nm) (.held p.val) := by simp [DD]
theorem lastOf_snoc (ps : List Peer) (p : Peer) (s : List UInt8) : lastOf (ps ++ [p]) s = if p.nm = s then some p else lastOf ps s := by simp [lastOf]
theorem DD_nil : DD [] = .map [] := rfl
theorem lastOf_nil (s : List UInt8) : lastOf [] s = none := rfl

theorem snoc_ind {α : Type} {motive : List α → Prop} (h0 : motive []) (h1 : ∀ l a, motive l → motive (l ++ [a])) (l : List α) : motive l := by
  have : ∀ r : List α, motive r.reverse := by
    intro r
    induction r with
    | nil => exact h0
    | cons a r ih => simpa using h1 _ a ih
  simpa using this l.reverse

theorem key_lit (s : List UInt8) : WideAt.IsKeyLit (.string s) := trivial

theorem tidy_DD (ps : List Peer) : Tidy (DD ps) := by
  induction ps using snoc_ind with
  | h0 => exact tidy_empty
  | h1 l a ih => rw [DD_snoc]; exact ih.put (key_lit _) _

theorem atKey_DD (ps : List Peer) (s : List UInt8) (z : DataW Value) : (DD ps).atKey (.string s) z = match lastOf ps s with | some p => .held p.val | none => z := by
  induction ps using snoc_ind with
  | h0 => rfl
  | h1 l a ih =>
    rw [DD_snoc, lastOf_snoc]
    by_cases h : a.nm = s
    · subst h
      rw [if_pos rfl, atKey_put_same (tidy_DD l).isMap (key_lit _)]
    · rw [if_neg h, atKey_put_other (fun e => h (by simpa using e.symm)), ih]

theorem has_DD (ps : List Peer) (s : List UInt8) : has (DD ps) (.string s) = (lastOf ps s).isSome := by
  induction ps using snoc_ind with
  | h0 => rfl
  | h1 l a ih =>
    rw [DD_snoc, lastOf_snoc]
    by_cases h : a.nm = s
    · subst h
      rw [if_pos rfl, has_put_same (tidy_DD l).isMap (key_lit _)]
      rfl
    · rw [if_neg h, has_put_other (fun e => h (by simpa using e.symm)), ih]

theorem lastOf_some {ps : List Peer} {s : List UInt8} {p : Peer} (h : lastOf ps s = some p) : p ∈ ps ∧ p.nm = s := by
  induction ps using snoc_ind with
  | h0 => simp [lastOf_nil] at h
  | h1 l a ih =>
    rw [lastOf_snoc] at h
    split at h
    · rename_i e
      simp only [Option.some.injEq] at h
      subst h
      exact ⟨by simp, e⟩
    · have := ih h
      exact ⟨by simp [this.1], this.2⟩

theorem lastOf_isSome {ps : List Peer} {p : Peer} (h : p ∈ ps) : (lastOf ps p.nm).isSome = true := by
  induction ps using snoc_ind with
  | h0 => simp at h
  | h1 l a ih =>
    rw [lastOf_snoc]
    split
    · rfl
    · rename_i e
      rcases List.mem_append.1 h with h | h
      · exact ih h
      · simp at h
        subst h
        exact absurd rfl e

/-- the keys of the datum are strings -/
theorem strs_DD (ps : List Peer) : ∃ es, DD ps = .map es ∧ es.Pairwise (fun p q => p.1 ≠ q.1) ∧ ∀ p ∈ es, ∃ x, p.1 = .string x := by
  obtain ⟨es, he, hp⟩ := tidy_DD ps
  refine ⟨es, he, hp, ?_⟩
  have : ∀ ps : List Peer, ∀ es, DD ps = .map es → ∀ p ∈ es, ∃ x, p.1 = .string x := by
    intro ps
    induction ps using snoc_ind with
    | h0 =>
      intro es he p hp
      rw [DD_nil] at he
      simp only [DataW.map.injEq] at he
      subst he
      simp at hp
    | h1 l a ih =>
      intro es he p hp
      obtain ⟨es0, he0, _⟩ := tidy_DD l
      rw [DD_snoc, he0] at he
      simp only [DataW.put, DataW.map.injEq] at he
      subst he
      rcases ChangeMaps.mem_insert_iff.1 hp with rfl | hp
      · exact ⟨_, rfl⟩
      · exact ih es0 he0 p (List.mem_filter.1 hp).1
  exact this ps es he

theorem strKeys_nodup (ps : List Peer) : (strKeys (DD ps)).Nodup := by
  obtain ⟨es, he, hp, hk⟩ := strs_DD ps
  rw [he]
  show (es.map fun p => strOf p.1).Nodup
  refine List.pairwise_map.2 (hp.imp_of_mem fun {p q} hp' hq' hne e => hne ?_)
  obtain ⟨a, ha⟩ := hk p hp'
  obtain ⟨b, hb⟩ := hk q hq'
  rw [ha, hb] at e ⊢
  exact congrArg _ e

theorem mem_strKeys (ps : List Peer) (s : List UInt8) : s ∈ strKeys (DD ps) ↔ (lastOf ps s).isSome = true := by
  rw [← has_DD]
  obtain ⟨es, he, hp, hk⟩ := strs_DD ps
  rw [he, has_eq, List.any_eq_true]
  show s ∈ (es.map fun p => strOf p.1) ↔ _
  rw [List.mem_map]
  constructor
  · rintro ⟨q, hq, rfl⟩
    obtain ⟨x, hx⟩ := hk q hq
    refine ⟨q, hq, ?_⟩
    rw [hx]
    exact WideAt.sameKey_self (key_lit _)
  · rintro ⟨q, hq, h⟩
    obtain ⟨x, hx⟩ := hk q hq
    refine ⟨q, hq, ?_⟩
    rw [hx] at h ⊢
    have := WideAt.sameKey_eq h
    simpa [strOf] using this

theorem strKeys_length (ps : List Peer) : (strKeys (DD ps)).length = size (DD ps) := by
  obtain ⟨es, he, _⟩ := tidy_DD ps
  rw [he]
  simp [strKeys, size]

/-- the peer that the map holds at a name (some peer or other where it holds none) -/
def peerAt (ps : List Peer) (s : List UInt8) : Peer := (lastOf ps s).getD ⟨⟨#[]⟩, ⟨#[]⟩, ⟨#[]⟩, ⟨#[]⟩⟩

theorem peerAt_nm {ps : List Peer} {s : List UInt8} (h : (lastOf ps s).isSome = true) : (peerAt ps s).nm = s := by
  obtain ⟨p, hp⟩ := Option.isSome_iff_exists.1 h
  rw [peerAt, hp]
  exact (lastOf_some hp).2

theorem atKey_peerAt {ps : List Peer} {s : List UInt8} (h : (lastOf ps s).isSome = true) (z : DataW Value) : (DD ps).atKey (.string s) z = .held (peerAt ps s).val := by
  obtain ⟨p, hp⟩ := Option.isSome_iff_exists.1 h
  rw [atKey_DD, peerAt, hp]
  rfl
end Go.Proofs.Ybulkahau
