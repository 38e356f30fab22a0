/-
  Seat b1644a: the plain law of the merge: what stateEdit.state answers, with no Go in sight.
-/
import Derived.Test.YbulkahagPdqP
import Derived.Maps.OwnSet
import Derived.Maps.Views
namespace Go.Proofs.Ybulkahag
open Go.RowKit Go.Maps
set_option linter.unusedVariables false

/-- the key numbered k -/
def ky (st : Int) (k : Nat) : Int := wrap32 ((k : Int) * st)

theorem ky_eq {st : Int} (h1 : 1 ≤ st) (h2 : st ≤ 256) {k : Nat} (hk : k < 64) : ky st k = (k : Int) * st ∧ 0 ≤ (k : Int) * st ∧ (k : Int) * st ≤ 16384 := by
  have a : 0 ≤ (k : Int) * st := Int.mul_nonneg (by omega) (by omega)
  have b : (k : Int) * st ≤ 64 * 256 := Int.mul_le_mul (by omega) h2 (by omega) (by omega)
  refine ⟨?_, a, by omega⟩
  unfold ky wrap32
  omega
theorem ky_lt {st : Int} (h1 : 1 ≤ st) (h2 : st ≤ 256) {i j : Nat} (hij : i < j) (hj : j < 64) : ky st i < ky st j := by
  rw [(ky_eq h1 h2 (k := i) (by omega)).1, (ky_eq h1 h2 hj).1]
  have a : ((i : Int) + 1) * st ≤ (j : Int) * st := Int.mul_le_mul_of_nonneg_right (by omega) (by omega)
  rw [Int.add_mul] at a
  omega
theorem ky_inj {st : Int} (h1 : 1 ≤ st) (h2 : st ≤ 256) {i j : Nat} (hi : i < 64) (hj : j < 64) (h : ky st i = ky st j) : i = j := by
  rcases Nat.lt_trichotomy i j with g | g | g
  · have := ky_lt h1 h2 g hj; omega
  · exact g
  · have := ky_lt h1 h2 g hi; omega
theorem ky_wf {st : Int} (h1 : 1 ≤ st) (h2 : st ≤ 256) {k : Nat} (hk : k < 64) : (Lit.int .i32 (ky st k)).wf = true := by
  obtain ⟨a, b, c⟩ := ky_eq h1 h2 hk
  rw [a]
  have e1 : IntKind.i32.min = -2147483648 := by decide
  have e2 : IntKind.i32.max = 2147483647 := by decide
  simp [Lit.wf, e1, e2]
  omega

/-- the entries that f gives, for the k from s on, n of them, that p keeps -/
def ent (p : Nat → Bool) (f : Nat → Kp) (s n : Nat) : List Kp := ((List.range' s n).filter p).map f

theorem ent_cons (p : Nat → Bool) (f : Nat → Kp) (s n : Nat) : ent p f s (n + 1) = (if p s then [f s] else []) ++ ent p f (s + 1) n := by
  unfold ent
  rw [List.range'_succ, List.filter_cons]
  split <;> simp
theorem ent_snoc (p : Nat → Bool) (f : Nat → Kp) (n : Nat) : ent p f 0 (n + 1) = ent p f 0 n ++ (if p n then [f n] else []) := by
  unfold ent
  rw [List.range'_concat, List.filter_append, List.map_append]
  congr 1
  simp only [Nat.zero_add, Nat.one_mul, List.filter_cons, List.filter_nil]
  split <;> simp
theorem mem_ent {p : Nat → Bool} {f : Nat → Kp} {s n : Nat} {x : Kp} : x ∈ ent p f s n ↔ ∃ k, s ≤ k ∧ k < s + n ∧ p k = true ∧ f k = x := by
  unfold ent
  simp only [List.mem_map, List.mem_filter, List.mem_range'_1]
  constructor
  · rintro ⟨k, ⟨⟨a, b⟩, c⟩, d⟩; exact ⟨k, a, b, c, d⟩
  · rintro ⟨k, a, b, c, d⟩; exact ⟨k, ⟨⟨a, b⟩, c⟩, d⟩
theorem ent_length (p : Nat → Bool) (f : Nat → Kp) (s n : Nat) : (ent p f s n).length ≤ n := by
  unfold ent
  rw [List.length_map]
  exact Nat.le_trans (List.length_filter_le _ _) (by simp)

def mrg : List Kp → List Kp → List Kp
  | [], s => s
  | x :: b, [] => x :: b
  | x :: b, y :: s => if x.1 < y.1 then x :: mrg b (y :: s) else if x.1 = y.1 then y :: mrg b s else y :: mrg (x :: b) s
termination_by b s => b.length + s.length

theorem mrg_nil (b : List Kp) : mrg b [] = b := by cases b <;> simp [mrg]

/-- what the law wants at k -/
def want (sb bb : Nat → Bool) (fs fb : Nat → Kp) (k : Nat) : List Kp := if sb k then [fs k] else if bb k then [fb k] else []
def wants (sb bb : Nat → Bool) (fs fb : Nat → Kp) (s n : Nat) : List Kp := (List.range' s n).flatMap (want sb bb fs fb)

theorem wants_cons (sb bb : Nat → Bool) (fs fb : Nat → Kp) (s n : Nat) : wants sb bb fs fb s (n + 1) = want sb bb fs fb s ++ wants sb bb fs fb (s + 1) n := by
  unfold wants
  rw [List.range'_succ, List.flatMap_cons]
theorem wants_snoc (sb bb : Nat → Bool) (fs fb : Nat → Kp) (n : Nat) : wants sb bb fs fb 0 (n + 1) = wants sb bb fs fb 0 n ++ want sb bb fs fb n := by
  unfold wants
  rw [List.range'_concat, List.flatMap_append]
  simp

/-- THE MERGE -/
theorem mrg_wants (sb bb : Nat → Bool) (fs fb : Nat → Kp) (N : Nat) (h1 : ∀ i j, i < j → j < N → (fb i).1 < (fs j).1) (h2 : ∀ i j, i < j → j < N → (fs i).1 < (fb j).1) (h3 : ∀ i, i < N → (fb i).1 = (fs i).1) :
    ∀ n s, s + n ≤ N → mrg (ent bb fb s n) (ent sb fs s n) = wants sb bb fs fb s n := by
  intro n
  induction n with
  | zero => intro s _; simp [ent, wants, mrg]
  | succ n ih =>
    intro s hs
    have ih' := ih (s + 1) (by omega)
    rw [ent_cons, ent_cons, wants_cons, want, ← ih']
    cases hsb : sb s with
    | true =>
      cases hbb : bb s with
      | true =>
        simp only [if_true, List.singleton_append]
        rw [mrg, if_neg (by rw [h3 s (by omega)]; omega), if_pos (h3 s (by omega))]
      | false =>
        simp only [if_true, Bool.false_eq_true, if_false, List.singleton_append, List.nil_append]
        cases hB : ent bb fb (s + 1) n with
        | nil => simp [mrg]
        | cons x b =>
          have hx : x ∈ ent bb fb (s + 1) n := by rw [hB]; exact List.mem_cons_self
          obtain ⟨k, g1, g2, _, rfl⟩ := mem_ent.1 hx
          have := h2 s k (by omega) (by omega)
          rw [mrg, if_neg (by omega), if_neg (by omega)]
    | false =>
      cases hbb : bb s with
      | true =>
        simp only [if_true, Bool.false_eq_true, if_false, List.singleton_append, List.nil_append]
        cases hS : ent sb fs (s + 1) n with
        | nil => simp [mrg_nil]
        | cons y t =>
          have hy : y ∈ ent sb fs (s + 1) n := by rw [hS]; exact List.mem_cons_self
          obtain ⟨k, g1, g2, _, rfl⟩ := mem_ent.1 hy
          have := h1 s k (by omega) (by omega)
          rw [mrg, if_pos this]
      | false => simp

/-- strict lists with the same members are one -/
theorem ent_pw (p : Nat → Bool) (f : Nat → Kp) (n : Nat) (h : ∀ i j, i < j → j < n → (f i).1 < (f j).1) : (ent p f 0 n).Pairwise (fun x y => lt x y = true) := by
  induction n with
  | zero => simp [ent]
  | succ n ih =>
    rw [ent_snoc, List.pairwise_append]
    refine ⟨ih (fun i j g1 g2 => h i j g1 (by omega)), by split <;> simp, fun x hx y hy => ?_⟩
    obtain ⟨k, _, g2, _, rfl⟩ := mem_ent.1 hx
    split at hy
    · simp at hy
      subst hy
      exact decide_eq_true (h k n (by omega) (by omega))
    · simp at hy

theorem eq_of_strict {l l' : List Kp} (h : l.Perm l') (h1 : l.Pairwise (fun x y => lt x y = true)) (h2 : l'.Pairwise (fun x y => lt x y = true)) : l = l' :=
  List.Perm.eq_of_pairwise (le := fun x y => lt x y = true) (fun a b _ _ g1 g2 => by rw [lt_asymm' g1] at g2; cases g2) h1 h2 h

theorem pw_keys {l : List Kp} (h : l.Pairwise (fun x y => lt x y = true)) : (l.map Prod.fst).Nodup :=
  List.pairwise_map.2 (h.imp fun {a b} g => by have := of_decide_eq_true g; omega)

/-- sort.Sort's answer, as a list -/
theorem post_list {n : Nat} {d d' : Array Kp} (h : Post 0 n d d') (hn : d.size = n) : d'.toList.Perm d.toList ∧ d'.toList.Pairwise (fun x y => lt x y = true) := by
  refine ⟨permIn_toList h.1 (by omega), List.pairwise_iff_getElem.2 fun i j hi hj hij => ?_⟩
  have hs : d'.size = n := h.1.1.trans hn
  have hi' : i < d'.size := by simpa using hi
  have hj' : j < d'.size := by simpa using hj
  have := h.2 i j (Nat.zero_le _) hij (by omega) trivial
  rw [getElem!_pos d' i hi', getElem!_pos d' j hj'] at this
  simpa using this

/-- what the map of the set holds when the keys below k have been put in -/
structure MapIs (st : Int) (sb : Nat → Bool) (pl : Nat → Int) (k : Nat) (D : DataW Unit) : Prop where
  tidy : Tidy D
  size : size D = (ent sb (fun k => (ky st k, pl k)) 0 k).length
  keys : ∀ x, has D (.int .i32 x) = true ↔ ∃ j, j < k ∧ sb j = true ∧ x = ky st j
  elem : ∀ j, j < k → sb j = true → ∀ z, D.atKey (.int .i32 (ky st j)) z = .lit (.int .i32 (pl j))

theorem MapIs.start (st : Int) (sb : Nat → Bool) (pl : Nat → Int) : MapIs st sb pl 0 (.map []) :=
  ⟨tidy_empty, rfl, fun x => ⟨fun h => by simp [has] at h, fun ⟨j, h, _⟩ => by omega⟩, fun j h => by omega⟩

theorem MapIs.skip {st : Int} {sb : Nat → Bool} {pl : Nat → Int} {k : Nat} {D : DataW Unit} (h : MapIs st sb pl k D) (hs : sb k = false) : MapIs st sb pl (k + 1) D :=
  ⟨h.tidy, by rw [ent_snoc, hs]; simpa using h.size, fun x => by
    rw [h.keys]
    constructor
    · rintro ⟨j, a, b, c⟩; exact ⟨j, by omega, b, c⟩
    · rintro ⟨j, a, b, c⟩
      by_cases e : j = k
      · subst e; rw [hs] at b; cases b
      · exact ⟨j, by omega, b, c⟩, fun j hj hb z => by
    by_cases e : j = k
    · subst e; rw [hs] at hb; cases hb
    · exact h.elem j (by omega) hb z⟩

theorem MapIs.put {st : Int} (h1 : 1 ≤ st) (h2 : st ≤ 256) {sb : Nat → Bool} {pl : Nat → Int} {k : Nat} (hk : k < 64) {D : DataW Unit} (h : MapIs st sb pl k D) (hs : sb k = true) : MapIs st sb pl (k + 1) (D.put (.int .i32 (ky st k)) (.lit (.int .i32 (pl k)))) := by
  have hkey : WideAt.IsKeyLit (.int .i32 (ky st k)) := trivial
  have hno : has D (.int .i32 (ky st k)) = false := by
    cases hh : has D (.int .i32 (ky st k)) with
    | false => rfl
    | true =>
      obtain ⟨j, a, _, c⟩ := (h.keys _).1 hh
      have := ky_inj h1 h2 hk (by omega) c
      omega
  refine ⟨h.tidy.put hkey _, ?_, fun x => ?_, fun j hj hb z => ?_⟩
  · rw [size_put h.tidy, hno, ent_snoc, hs, h.size]
    simp
  · by_cases e : x = ky st k
    · subst e
      rw [has_put_same h.tidy.isMap hkey]
      exact ⟨fun _ => ⟨k, by omega, hs, rfl⟩, fun _ => rfl⟩
    · rw [has_put_other (fun e' => e (by simpa using e')), h.keys]
      constructor
      · rintro ⟨j, a, b, c⟩; exact ⟨j, by omega, b, c⟩
      · rintro ⟨j, a, b, c⟩
        by_cases ej : j = k
        · subst ej; exact absurd c e
        · exact ⟨j, by omega, b, c⟩
  · by_cases ej : j = k
    · subst ej
      rw [atKey_put_same h.tidy.isMap hkey]
    · rw [atKey_put_other (fun e' => ej (ky_inj h1 h2 (by omega) hk (by simpa using e')))]
      exact h.elem j (by omega) hb z

/-- the entries that have come out of the map so far -/
structure Coll (D : DataW Unit) (left : Lit → Bool) (ss : List Kp) : Prop where
  nodup : (ss.map Prod.fst).Nodup
  mem : ∀ x c, (x, c) ∈ ss ↔ has D (.int .i32 x) = true ∧ left (.int .i32 x) = false ∧ ∀ z, D.atKey (.int .i32 x) z = .lit (.int .i32 c)

theorem Coll.start (D : DataW Unit) : Coll D (has D) [] := ⟨by simp, fun x c => by simp; intro h1 h2; rw [h1] at h2; cases h2⟩
theorem Coll.step {D : DataW Unit} {left : Lit → Bool} {ss : List Kp} (h : Coll D left ss) {x c : Int} (hl : left (.int .i32 x) = true) (hh : has D (.int .i32 x) = true) (hat : ∀ z, D.atKey (.int .i32 x) z = .lit (.int .i32 c)) :
    Coll D (fun z => left z && !z.sameKey (.int .i32 x)) (ss ++ [(x, c)]) := by
  have hnew : ∀ c', (x, c') ∉ ss := fun c' hm => by rw [((h.mem x c').1 hm).2.1] at hl; cases hl
  have hself : (Lit.int .i32 x).sameKey (.int .i32 x) = true := WideAt.sameKey_self trivial
  refine ⟨?_, fun y e => ?_⟩
  · rw [List.map_append, List.nodup_append]
    refine ⟨h.nodup, by simp, fun a ha b hb e => ?_⟩
    simp at hb
    obtain ⟨q, hq, hqa⟩ := List.mem_map.1 ha
    obtain ⟨q1, q2⟩ := q
    simp at hqa
    subst hqa hb
    subst e
    exact hnew q2 hq
  · rw [List.mem_append, h.mem]
    by_cases ey : y = x
    · subst ey
      constructor
      · rintro (⟨_, b, _⟩ | b)
        · rw [b] at hl; cases hl
        · simp at b
          subst b
          exact ⟨hh, by rw [hself]; simp, hat⟩
      · rintro ⟨a, b, d⟩
        right
        have := (hat (.lit (.int .i32 0))).symm.trans (d (.lit (.int .i32 0)))
        simp at this
        simp [this]
    · have hne : (Lit.int .i32 y).sameKey (.int .i32 x) = false := by
        cases hs : (Lit.int .i32 y).sameKey (.int .i32 x) with
        | false => rfl
        | true => exact absurd (by have := WideAt.sameKey_eq hs; simpa using this) ey
      constructor
      · rintro (⟨a, b, d⟩ | b)
        · exact ⟨a, by rw [b]; rfl, d⟩
        · simp at b; exact absurd b.1 ey
      · rintro ⟨a, b, d⟩
        rw [hne] at b
        exact .inl ⟨a, by simpa using b, d⟩

theorem nodup_of {l : List Kp} (h : (l.map Prod.fst).Nodup) : l.Nodup := (List.pairwise_map.1 h).imp fun hne e => hne (congrArg _ e)

theorem Coll.fin {D : DataW Unit} {left : Lit → Bool} {ss : List Kp} (h : Coll D left ss) (hl : ∀ kl, left kl = false) {st : Int} (h1 : 1 ≤ st) (h2 : st ≤ 256) {sb : Nat → Bool} {pl : Nat → Int} (hm : MapIs st sb pl 64 D) :
    ss.Perm (ent sb (fun k => (ky st k, pl k)) 0 64) := by
  have hn2 := ent_pw sb (fun k => (ky st k, pl k)) 64 (fun i j g1 g2 => ky_lt h1 h2 g1 g2)
  refine (List.perm_ext_iff_of_nodup (nodup_of h.nodup) (nodup_of (pw_keys hn2))).2 fun a => ?_
  obtain ⟨x, c⟩ := a
  rw [h.mem, mem_ent, hm.keys]
  constructor
  · rintro ⟨⟨j, a, b, rfl⟩, _, hat⟩
    have := (hm.elem j a b (.lit (.int .i32 0))).symm.trans (hat (.lit (.int .i32 0)))
    simp at this
    exact ⟨j, by omega, by omega, b, by simp [this]⟩
  · rintro ⟨j, _, a, b, e⟩
    simp at e
    obtain ⟨rfl, rfl⟩ := e
    exact ⟨⟨j, by omega, b, rfl⟩, hl _, hm.elem j (by omega) b⟩
end Go.Proofs.Ybulkahag
