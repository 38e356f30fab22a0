/-
  Seat b1644a: the plain law of the sort over distinct keys: what holds between the sorted parts while pdqsort runs.
-/
import Derived.Test.YbulkahagSrtF
namespace Go.Proofs.Ybulkahag
open Go.RowKit Go.Shelf
set_option linter.unusedVariables false

def Keys (d : Array Kp) : Prop := (d.toList.map Prod.fst).Nodup

theorem permIn_toList {d d' : Array Kp} {a b : Nat} (h : Sort.PermIn a b d d') (hb : b ≤ d.size) : d'.toList.Perm d.toList := by
  have h' := Sort.permIn_mono d d' a b 0 d.size (Nat.zero_le _) hb (Nat.le_refl _) h
  have h2 := h'.2.2
  have e : d'.size = d.size := h.1
  have e1 : (d.extract 0 d.size).toList = d.toList := by simp
  have e2 : (d'.extract 0 d.size).toList = d'.toList := by rw [← e]; simp
  rw [e1, e2] at h2
  exact h2

theorem Keys.perm {d d' : Array Kp} {a b : Nat} (hk : Keys d) (h : Sort.PermIn a b d d') (hb : b ≤ d.size) : Keys d' :=
  ((permIn_toList h hb).map Prod.fst).nodup_iff.2 hk

theorem Keys.ne_lt {d : Array Kp} (hk : Keys d) {i j : Nat} (hj : j < d.size) (h : i < j) : d[i]!.1 ≠ d[j]!.1 := by
  have hp := (List.pairwise_iff_getElem.1 hk) i j (by simp; omega) (by simpa using hj) h
  rw [getElem!_pos d i (by omega), getElem!_pos d j hj]
  simpa using hp
theorem Keys.ne {d : Array Kp} (hk : Keys d) {i j : Nat} (hi : i < d.size) (hj : j < d.size) (h : i ≠ j) : d[i]!.1 ≠ d[j]!.1 := by
  rcases Nat.lt_or_gt_of_ne h with g | g
  · exact hk.ne_lt hj g
  · exact (hk.ne_lt hi g).symm

theorem Keys.flip {d : Array Kp} (hk : Keys d) {i j : Nat} (hi : i < d.size) (hj : j < d.size) (h : i ≠ j) (hl : lt d[i]! d[j]! = false) : lt d[j]! d[i]! = true := by
  have hne := hk.ne hi hj h
  unfold lt at *
  have hl' := of_decide_eq_false hl
  exact decide_eq_true (by omega)

theorem lt_trans' {x y z : Kp} (h1 : lt x y = true) (h2 : lt y z = true) : lt x z = true := by
  unfold lt at *
  have h1' := of_decide_eq_true h1
  have h2' := of_decide_eq_true h2
  exact decide_eq_true (by omega)
theorem lt_asymm' {x y : Kp} (h1 : lt x y = true) : lt y x = false := by
  unfold lt at *
  have h1' := of_decide_eq_true h1
  exact decide_eq_false (by omega)
theorem swo : Sort.SWO lt where
  irrefl x := by unfold lt; exact decide_eq_false (by omega)
  trans x y z h1 h2 := lt_trans' h1 h2
  ntrans x y z h1 h2 := by
    unfold lt at *
    have h1' := of_decide_eq_false h1
    have h2' := of_decide_eq_false h2
    exact decide_eq_false (by omega)

/-- the pairs of places that Q tells are in their order -/
def Ord (lo hi : Nat) (d : Array Kp) (Q : Nat → Nat → Prop) : Prop := ∀ i j, lo ≤ i → i < j → j < hi → Q i j → lt d[i]! d[j]! = true

theorem Ord.mono {lo hi : Nat} {d : Array Kp} {Q Q' : Nat → Nat → Prop} (h : Ord lo hi d Q) (hq : ∀ i j, lo ≤ i → i < j → j < hi → Q' i j → Q i j) : Ord lo hi d Q' :=
  fun i j h1 h2 h3 h4 => h i j h1 h2 h3 (hq i j h1 h2 h3 h4)

/-- what is permuted inside a part that Q does not look into stands as Q says -/
theorem Ord.perm {lo hi a b : Nat} {d d' : Array Kp} {Q : Nat → Nat → Prop} (h : Ord lo hi d Q) (hp : Sort.PermIn a b d d') (hb : b ≤ d.size) (h1 : lo ≤ a) (h2 : b ≤ hi)
    (c0 : ∀ i j, Q i j → i < j → a ≤ i → j < b → False) (c1 : ∀ i j j', Q i j → i < a → a ≤ j → j < b → a ≤ j' → j' < b → Q i j') (c2 : ∀ i i' j, Q i j → b ≤ j → a ≤ i → i < b → a ≤ i' → i' < b → Q i' j) : Ord lo hi d' Q := by
  intro i j g1 g2 g3 g4
  by_cases hia : i < a
  · have ei : d'[i]! = d[i]! := hp.2.1 i (.inl hia)
    rw [ei]
    by_cases hj : a ≤ j ∧ j < b
    · exact Sort.permIn_all d d' a b (fun x => lt d[i]! x = true) hb hp (fun t t1 t2 => h i t g1 (by omega) (by omega) (c1 i j t g4 hia hj.1 hj.2 t1 t2)) j hj.1 hj.2
    · rw [hp.2.1 j (by omega)]
      exact h i j g1 g2 g3 g4
  · by_cases hib : i < b
    · by_cases hj : j < b
      · exact (c0 i j g4 g2 (by omega) hj).elim
      · rw [hp.2.1 j (by omega)]
        exact Sort.permIn_all d d' a b (fun x => lt x d[j]! = true) hb hp (fun t t1 t2 => h t j (by omega) (by omega) g3 (c2 i t j g4 (by omega) (by omega) hib t1 t2)) i (by omega) hib
    · rw [hp.2.1 i (by omega), hp.2.1 j (by omega)]
      exact h i j g1 g2 g3 g4

/-- while pdqsort runs on [a0, b0): all stands in its order but what lies inside [a, b) -/
structure St (n a0 b0 : Nat) (d dk : Array Kp) (a b : Nat) : Prop where
  size : dk.size = n
  aa : a0 ≤ a
  ab : a ≤ b
  bb : b ≤ b0
  keys : Keys dk
  perm : Sort.PermIn a0 b0 d dk
  ord : Ord (a0 - 1) b0 dk (fun i j => i < a ∨ b ≤ j)

theorem St.step {n a0 b0 a b : Nat} {d dk d' : Array Kp} (h : St n a0 b0 d dk a b) (hb : b0 ≤ n) (hp : Sort.PermIn a b dk d') : St n a0 b0 d d' a b := by
  have h1 := h.aa
  have h2 := h.bb
  have hs := h.size
  refine ⟨hp.1.trans hs, h1, h.ab, h2, h.keys.perm hp (by omega), Sort.permIn_trans _ _ _ _ _ h.perm (Sort.permIn_mono _ _ a b a0 b0 h1 h2 (by omega) hp), ?_⟩
  exact h.ord.perm hp (by omega) (by omega) h2 (fun i j q g1 g2 g3 => by omega) (fun i j j' q g1 g2 g3 g4 g5 => .inl g1) (fun i i' j q g1 g2 g3 g4 g5 => .inr g1)

/-- nothing in [a, b) is less than what stands ahead of it -/
theorem St.below {n a0 b0 a b : Nat} {d dk : Array Kp} (h : St n a0 b0 d dk a b) : Sort.Below lt a b dk := by
  have h1 := h.aa
  have h2 := h.bb
  by_cases ha : a = 0
  · exact .inl ha
  · exact .inr fun i g1 g2 => lt_asymm' (h.ord (a - 1) i (by omega) (by omega) (by omega) (.inl (by omega)))
theorem St.ahead {n a0 b0 a b : Nat} {d dk : Array Kp} (h : St n a0 b0 d dk a b) {p : Nat} (ha : 0 < a) (h1 : a ≤ p) (h2 : p < b) : lt dk[a - 1]! dk[p]! = true :=
  h.ord (a - 1) p (by have := h.aa; omega) (by omega) (by have := h.bb; omega) (.inl (by omega))

/-- what is asked, and what is given, for a call on [a0, b0) -/
def Pre (a0 b0 : Nat) (d : Array Kp) : Prop := Keys d ∧ Ord (a0 - 1) b0 d (fun i _ => i < a0)
def Post (a0 b0 : Nat) (d d' : Array Kp) : Prop := Sort.PermIn a0 b0 d d' ∧ Ord a0 b0 d' (fun _ _ => True)

theorem St.start {n a0 b0 : Nat} {d : Array Kp} (h : Pre a0 b0 d) (hn : d.size = n) (hab : a0 ≤ b0) : St n a0 b0 d d a0 b0 :=
  ⟨hn, Nat.le_refl _, hab, Nat.le_refl _, h.1, Sort.permIn_refl _ _ _, h.2.mono fun i j g1 g2 g3 q => by omega⟩

/-- the part is sorted: all is -/
theorem St.fin {n a0 b0 a b : Nat} {d dk d' : Array Kp} (h : St n a0 b0 d dk a b) (hb : b0 ≤ n) (hp : Sort.PermIn a b dk d') (hs : Sort.SortedIn lt a b d') : Post a0 b0 d d' := by
  have h' := h.step hb hp
  have h1 := h.aa
  have h2 := h.bb
  have h3 := h'.size
  refine ⟨h'.perm, fun i j g1 g2 g3 _ => ?_⟩
  by_cases hia : i < a
  · exact h'.ord i j (by omega) g2 g3 (.inl hia)
  · by_cases hjb : b ≤ j
    · exact h'.ord i j (by omega) g2 g3 (.inr hjb)
    · exact h'.keys.flip (by omega) (by omega) (by omega) (hs i j (by omega) g2 (by omega))

/-- behind the partition: the pivot stands between -/
theorem St.cut {n a0 b0 a b mid : Nat} {d dk d' : Array Kp} (h : St n a0 b0 d dk a b) (hb : b0 ≤ n) (hp : Parted n a b dk d' mid) :
    Keys d' ∧ Sort.PermIn a0 b0 d d' ∧ Ord (a0 - 1) b0 d' (fun i j => i < a ∨ b ≤ j ∨ i = mid ∨ j = mid ∨ (i < mid ∧ mid < j)) := by
  obtain ⟨hs, m1, m2, hpm, hl, hr⟩ := hp
  have h' := h.step hb hpm
  have h1 := h.aa
  have h2 := h.bb
  have hL : ∀ t, a ≤ t → t < mid → lt d'[t]! d'[mid]! = true := hl
  have hR : ∀ t, mid < t → t < b → lt d'[mid]! d'[t]! = true := fun t g1 g2 => h'.keys.flip (by omega) (by omega) (by omega) (hr t g1 g2)
  refine ⟨h'.keys, h'.perm, fun i j g1 g2 g3 q => ?_⟩
  by_cases hia : i < a
  · exact h'.ord i j g1 g2 g3 (.inl hia)
  · by_cases hjb : b ≤ j
    · exact h'.ord i j g1 g2 g3 (.inr hjb)
    · by_cases e1 : i = mid
      · rw [e1]; exact hR j (by omega) (by omega)
      · by_cases e2 : j = mid
        · rw [e2]; exact hL i (by omega) (by omega)
        · exact lt_trans' (hL i (by omega) (by omega)) (hR j (by omega) (by omega))

theorem St.preLeft {n a0 b0 a b mid : Nat} {d dk d' : Array Kp} (h : St n a0 b0 d dk a b) (hb : b0 ≤ n) (hp : Parted n a b dk d' mid) : Pre a mid d' := by
  obtain ⟨k, _, o⟩ := h.cut hb hp
  have h1 := h.aa
  have h2 := h.bb
  have m2 := hp.2.2.1
  exact ⟨k, fun i j g1 g2 g3 q => o i j (by omega) g2 (by omega) (.inl q)⟩
theorem St.preRight {n a0 b0 a b mid : Nat} {d dk d' : Array Kp} (h : St n a0 b0 d dk a b) (hb : b0 ≤ n) (hp : Parted n a b dk d' mid) : Pre (mid + 1) b d' := by
  obtain ⟨k, _, o⟩ := h.cut hb hp
  have h1 := h.aa
  have h2 := h.bb
  have m1 := hp.2.1
  have m2 := hp.2.2.1
  exact ⟨k, fun i j g1 g2 g3 q => o i j (by omega) g2 (by omega) (.inr (.inr (.inl (by omega))))⟩

theorem St.left {n a0 b0 a b mid : Nat} {d dk d' e : Array Kp} (h : St n a0 b0 d dk a b) (hb : b0 ≤ n) (hp : Parted n a b dk d' mid) (hs : Post a mid d' e) : St n a0 b0 d e (mid + 1) b := by
  obtain ⟨k, pm, o⟩ := h.cut hb hp
  obtain ⟨hsz, m1, m2, _, _, _⟩ := hp
  obtain ⟨q1, q2⟩ := hs
  have h1 := h.aa
  have h2 := h.bb
  have o2 := o.perm q1 (by omega) (by omega) (by omega) (fun i j q g1 g2 g3 => by omega) (fun i j j' q g1 g2 g3 g4 g5 => .inl g1) (fun i i' j q g1 g2 g3 g4 g5 => by omega)
  refine ⟨q1.1.trans hsz, by omega, by omega, h2, k.perm q1 (by omega), Sort.permIn_trans _ _ _ _ _ pm (Sort.permIn_mono _ _ a mid a0 b0 h1 (by omega) (by omega) q1), fun i j g1 g2 g3 q => ?_⟩
  by_cases hin : a ≤ i ∧ j < mid
  · exact q2 i j hin.1 g2 hin.2 trivial
  · exact o2 i j g1 g2 g3 (by omega)
theorem St.right {n a0 b0 a b mid : Nat} {d dk d' e : Array Kp} (h : St n a0 b0 d dk a b) (hb : b0 ≤ n) (hp : Parted n a b dk d' mid) (hs : Post (mid + 1) b d' e) : St n a0 b0 d e a mid := by
  obtain ⟨k, pm, o⟩ := h.cut hb hp
  obtain ⟨hsz, m1, m2, _, _, _⟩ := hp
  obtain ⟨q1, q2⟩ := hs
  have h1 := h.aa
  have h2 := h.bb
  have o2 := o.perm q1 (by omega) (by omega) (by omega) (fun i j q g1 g2 g3 => by omega) (fun i j j' q g1 g2 g3 g4 g5 => by omega) (fun i i' j q g1 g2 g3 g4 g5 => .inr (.inl g1))
  refine ⟨q1.1.trans hsz, h1, by omega, by omega, k.perm q1 (by omega), Sort.permIn_trans _ _ _ _ _ pm (Sort.permIn_mono _ _ (mid + 1) b a0 b0 (by omega) h2 (by omega) q1), fun i j g1 g2 g3 q => ?_⟩
  by_cases hin : mid + 1 ≤ i ∧ j < b
  · exact q2 i j hin.1 g2 hin.2 trivial
  · exact o2 i j g1 g2 g3 (by omega)
end Go.Proofs.Ybulkahag
