/-
  THE PROOF OF 'Rows.LawS1643BFreshSaid': the frame after the kit's shell for a law (proof-skeleton.mjs), turned to an array by value; the walk is ours.
-/
import Derived.Test.YbulkagzsFresh
import Derived.OpenShut
import Derived.ShutString
import Derived.ChangeOld
import Derived.Below
namespace Go.Proofs.Ybulkagzs.lawS1643BFresh
open Go.ChangeShapes Go.WideShapes Go.ChangeAt Go.RowKit
set_option linter.unusedVariables false

theorem own : ownKnob Yba.prog.godebug = none := by kernel_rfl
theorem laidOut : laidOutB Yba.prog = true := by kernel_rfl
theorem cells22 : Yba.prog.cellsOf 22 = 20 := by kernel_rfl
theorem cells5 : Yba.prog.cellsOf 5 = 1 := by kernel_rfl

theorem okWide_array' {P : Program} {t : TypeId} {n : Nat} {e : TypeId} {w : World} {r : Reach} {base : Nat} {v : Value} (ht : P.underlying t = some (.array n e)) (h : Value.okWide P w r base t v) : ∃ cs, v = .agg cs ∧ cs.size = P.cellsOf t := by
  simp only [Value.okWide, ht] at h
  obtain ⟨cs, h1, h2, _⟩ := h
  exact ⟨cs, h1, h2⟩

theorem ints_of_read {H : Type} {enc : TypeId × Value → H} {w : World} {bs : Array Value} {d : DataW H} {ps : List MemPlace} (hs : bs.size = 20) (h : DataW.Trod enc Yba.prog w 0 (fun _ => true) true 22 (.agg bs) d ps) : ∀ i, i < 20 → ∃ n : Int, bs[i]? = some (.int .u8 n) := by
  obtain ⟨m, hm⟩ := h
  obtain ⟨xs, m', _, _, hl, hx, hf⟩ := DataW.trod_array Yba.underlying22 hm
  intro i hi20
  have hi : i < bs.size := by omega
  have h1 := hf i hi20
  rw [cells5, Nat.mul_one] at h1
  have hxi : i < xs.length := by omega
  rw [List.getElem?_eq_getElem hxi] at h1
  obtain ⟨n, hc, _⟩ := DataW.trod_int Yba.underlying5 h1
  have h2 : (bs.toList.drop i).take 1 = [bs[i]] := by
    rw [List.drop_eq_getElem_cons (by simpa using hi)]
    simp
  have h3 : [bs[i]] = [Value.int .u8 n] := by rw [← h2]; exact hc
  simp only [List.cons.injEq, and_true] at h3
  exact ⟨n, by rw [Array.getElem?_eq_getElem hi, h3]⟩

set_option maxRecDepth 100000 in
theorem lifted (os : Os) (started : os.Started) (H : Type) (enc : TypeId × Value → H) :
    ReturnsInHanded {} Yba.checked os 5 .any (Rows.lawS1643BFreshSpec.pre6 enc Yba.prog Yba.f5 Rows.lawS1643BFreshRow.domain false) (Rows.lawS1643BFreshSpec.post enc Yba.prog Yba.f5 false true false false) := by
  refine returnsInHanded_of_change (C := Yba.checked) own started (by kernel_rfl) Yba.func5
    (ChangeSpec.witness6 (enc := enc) (C := Yba.checked) false ⟨#[], #[.agg #[.int .u8 0, .int .u8 0, .int .u8 0, .int .u8 0, .int .u8 0, .int .u8 0, .int .u8 0, .int .u8 0, .int .u8 0, .int .u8 0, .int .u8 0, .int .u8 0, .int .u8 0, .int .u8 0, .int .u8 0, .int .u8 0, .int .u8 0, .int .u8 0, .int .u8 0, .int .u8 0], .int .i64 0, .int .i64 0, .int .i64 0], []⟩ 8 (by kernel_rfl) (by kernel_rfl) (by kernel_rfl) (by kernel_rfl)) ?_
  intro W base args ds gs before hval0 hW hcnd _
  have hval : ∀ (j : Nat) t v, Yba.f5.params[j]? = some t → args[j]? = some v → Value.okWide Yba.prog W .any base t v := hval0
  have hW' := hW
  obtain ⟨p, q, hA0, hV, rfl, hfz, hnd⟩ := hW
  have hA : DataW.TrodAll enc Yba.prog W 0 (fun _ => true) true Yba.f5.params.toList args.toList ds p := hA0
  rw [Yba.params5] at hA hval
  obtain ⟨v0, vs0, d0, ds0, p0, q0, hargs, rfl, rfl, h0, r0⟩ := trodAll_cons hA
  obtain ⟨v1, vs1, d1, ds1, p1, q1, rfl, rfl, rfl, h1, r1⟩ := trodAll_cons r0
  obtain ⟨v2, vs2, d2, ds2, p2, q2, rfl, rfl, rfl, h2, r2⟩ := trodAll_cons r1
  obtain ⟨v3, vs3, d3, ds3, p3, q3, rfl, rfl, rfl, h3, r3⟩ := trodAll_cons r2
  obtain ⟨rfl, rfl, rfl⟩ := trodAll_nil r3
  obtain rfl : args = #[v0, v1, v2, v3] := by cases args; simp_all
  obtain ⟨rfl, rfl⟩ := trodVars_none hV
  obtain ⟨bs, rfl, hbs'⟩ := okWide_array' Yba.underlying22 (hval 0 22 v0 rfl rfl)
  have hbs : bs.size = 20 := hbs'.trans cells22
  have k0 := h0
  have lt0 : ∀ x ∈ p0, x.block < W.heap.size := by obtain ⟨m, hm⟩ := k0; exact DataW.trod_lt m _ _ _ hm
  have hint := ints_of_read hbs h0
  have hone : bs.all (·.oneCell') = true := by
    rw [Array.all_eq_true]
    intro i hi
    obtain ⟨n, hn⟩ := hint i (by omega)
    rw [Array.getElem?_eq_getElem hi] at hn
    simp only [Option.some.injEq] at hn
    rw [hn]
    rfl
  obtain ⟨a1, rfl, rfl, rfl, w1⟩ := open_int Yba.underlying3 (hval 1 3 v1 rfl rfl) h1
  obtain ⟨a2, rfl, rfl, rfl, w2⟩ := open_int Yba.underlying3 (hval 2 3 v2 rfl rfl) h2
  obtain ⟨a3, rfl, rfl, rfl, w3⟩ := open_int Yba.underlying2 (hval 3 2 v3 rfl rfl) h3
  clear hA0 hval0
  refine (walkFresh bs.toList (by simpa using hbs) hint hone a1 a2 a3 (bounds_i64 w3).1 (bounds_i64 w3).2 W).mono fun e W' ⟨he, bel⟩ => ?_
  subst he
  exact ⟨_, rfl, _, _, _, [], _, [], hW', trodAll_mk1 (shut_bool Yba.underlying4 _), (trodAll_cons_mk (Below.trod laidOut (by kernel_rfl) (of_decide_eq_true (by kernel_rfl)) k0 bel lt0) (trodAll_cons_mk (shut_int Yba.underlying3 w1) (trodAll_cons_mk (shut_int Yba.underlying3 w2) (trodAll_cons_mk (shut_int Yba.underlying2 w3) trodAll_mk0)))), rfl, bel.frame _, fun h => by cases h⟩

theorem over : Rows.lawS1643BFreshRow.holds Yba.pinned (OpenSpec.ofChange Rows.lawS1643BFreshSpec) :=
  OpenClaim.holds_of_wide 5 Yba.f5 rfl rfl rfl rfl rfl rfl rfl ⟨rfl, rfl, rfl, rfl, rfl⟩ rfl rfl rfl rfl rfl (by kernel_rfl) Yba.func5 (by kernel_rfl)
    (of_decide_eq_true (by kernel_rfl)) (by unfold Func.isWrapper; first | (rw [if_pos (by decide +kernel)]; kernel_rfl) | (rw [if_neg (by decide +kernel)]; exact ⟨rfl, rfl⟩))
    (fun os started H enc _ => lifted os started H enc)

/-- THE STATEMENT -/
theorem proved : Rows.LawS1643BFreshSaid := over
#print axioms proved
end Go.Proofs.Ybulkagzs.lawS1643BFresh
