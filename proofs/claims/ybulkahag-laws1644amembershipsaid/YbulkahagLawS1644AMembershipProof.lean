/-
  THE PROOF OF 'Rows.LawS1644AMembershipSaid': the frame after the kit's shell for a law (proof-skeleton.mjs), turned to a slice of structs; the walk is ours.
-/
import Derived.Test.YbulkahagMem
import Derived.OpenShut
import Derived.ShutString
import Derived.ChangeOld
import Derived.Below
import Derived.Deep.SlicePairs
namespace Go.Proofs.Ybulkahag.lawS1644AMembership
open Go.ChangeShapes Go.WideShapes Go.ChangeAt Go.RowKit
open Go.ChangeMaps (open_string shut_string)
set_option linter.unusedVariables false

theorem own : ownKnob Yba.prog.godebug = none := by kernel_rfl
theorem cells27 : Yba.prog.cellsOf 27 = 5 := by kernel_rfl
theorem cells9 : Yba.prog.cellsOf 9 = 1 := by kernel_rfl
theorem cells5 : Yba.prog.cellsOf 5 = 1 := by kernel_rfl
theorem cells2 : Yba.prog.cellsOf 2 = 1 := by kernel_rfl

theorem long_any (user : ByteArray) (a : Option Addr) (len cap : Nat) (w : World) (hlen : 1024 < len) :
    Calls Yba.prog 3 #[.string user, .slice a len cap] w fun e w' => e = .returned (.bool true) ∧ Below w.heap.size w w' := by
  have hlen' : (1024 : Int) < (len : Int) := by omega
  go_enter Yba.func3, Yba.ntmps3
  go_wp2
  go_ret
  exact ⟨rfl, Below.refl _ _⟩

set_option maxHeartbeats 1000000 in
set_option maxRecDepth 100000 in
theorem none_any (user : ByteArray) (hu : user.size ≤ maxLen) (a : Option Addr) (cap : Nat) (w : World) :
    Calls Yba.prog 3 #[.string user, .slice a 0 cap] w fun e w' => e = .returned (.bool true) ∧ Below w.heap.size w w' := by
  obtain ⟨ku, hku⟩ := keyOf51 sMember user (by unfold sMember maxLen; decide) hu
  have hmm := @run_makeMap Yba.prog
  have hown := World.ownsMap_made w Yba.prog 51 R
  have hm := member_any user hu w.heap.size 0 (.map []) (.pointer none) ⟨#[]⟩ (w.alloc (.map #[] 0)) ku hku hown rfl (.inl ⟨rfl, rfl⟩)
  clear hown hku
  go_enter Yba.func3, Yba.ntmps3
  go_wp2
  refine wp_loop_rounds 1 ?_
  rw [rounds_succ]
  go_wp2_with (go_at_call 7; refine hm.mono ?_; rintro e w1 ⟨rfl, hb1⟩)
  go_ret
  exact ⟨rfl, ((Below.refl _ _).alloc (Nat.le_refl _) _).trans (hb1.mono (by simp))⟩

set_option maxRecDepth 100000 in
/-- WHAT IS READ OF THE ENTRIES -/
theorem open_ents {H : Type} {enc : TypeId × Value → H} {w : World} {a : Option Addr} {len cap : Nat} {d : DataW H} {ps : List MemPlace} (h : DataW.Trod enc Yba.prog w 0 (fun _ => true) true 22 (.slice a len cap) d ps) (hlen : 0 < len) :
    ∃ b off, a = some ⟨b, off, none⟩ ∧ Ents w b off len := by
  obtain ⟨fuel, hf⟩ := h
  rcases Deep.open_slice Yba.underlying22 hf with ⟨h0, _⟩ | ⟨x, l, c, m, n, D, Pl, hcs, _, hl, hm, hmm, _, hx⟩
  · simp [Value.cells] at h0
    omega
  · simp [Value.cells] at hcs
    obtain ⟨rfl, rfl, rfl⟩ := hcs
    simp only [if_true] at hmm
    subst hmm
    have each : ∀ i, i < m → ∃ (sel : Int) (key mem : ByteArray) (kind num : Int), 0 ≤ sel ∧ sel ≤ 255 ∧ 0 ≤ kind ∧ kind ≤ 255 ∧ key.size ≤ maxLen ∧ mem.size ≤ maxLen ∧
        w.cell? (x.add (i * 5)) = some (.int .u8 sel) ∧ w.cell? (x.add (i * 5 + 1)) = some (.string key) ∧ w.cell? (x.add (i * 5 + 2)) = some (.string mem) ∧ w.cell? (x.add (i * 5 + 3)) = some (.int .u8 kind) ∧ w.cell? (x.add (i * 5 + 4)) = some (.int .i64 num) := by
      intro i hi
      obtain ⟨cs', h1, h2⟩ := hx i hi
      rw [cells27] at h1
      obtain ⟨_, hlen5, hc⟩ := World.cells?_some h1
      obtain ⟨xs, k, hk, hxy, _, hxl, hfd⟩ := DataW.trod_struct Yba.underlying27 h2
      have e0 := hc 0 (by omega)
      have e1 := hc 1 (by omega)
      have e2 := hc 2 (by omega)
      have e3 := hc 3 (by omega)
      have e4 := hc 4 (by omega)
      rw [Deep.add_add] at e0 e1 e2 e3 e4
      have g0 := hfd 0 _ rfl
      have g1 := hfd 1 _ rfl
      have g2 := hfd 2 _ rfl
      have g3 := hfd 3 _ rfl
      have g4 := hfd 4 _ rfl
      match xs, hxl, cs', hlen5, e0, e1, e2, e3, e4, g0, g1, g2, g3, g4 with
      | [y0, y1, y2, y3, y4], _, [v0, v1, v2, v3, v4], _, e0, e1, e2, e3, e4, g0, g1, g2, g3, g4 =>
        simp [cells5, cells9, cells2] at g0 g1 g2 g3 g4 e0 e1 e2 e3 e4
        obtain ⟨n0, q0, _, w0⟩ := DataW.trod_int Yba.underlying5 g0
        obtain ⟨n1, q1, _, w1⟩ := DataW.trod_string Yba.underlying9 g1
        obtain ⟨n2, q2, _, w2⟩ := DataW.trod_string Yba.underlying9 g2
        obtain ⟨n3, q3, _, w3⟩ := DataW.trod_int Yba.underlying5 g3
        obtain ⟨n4, q4, _, w4⟩ := DataW.trod_int Yba.underlying2 g4
        simp only [List.cons.injEq, and_true] at q0 q1 q2 q3 q4
        subst q0 q1 q2 q3 q4
        exact ⟨n0, n1, n2, n3, n4, (bounds_u8 w0).1, (bounds_u8 w0).2, (bounds_u8 w3).1, (bounds_u8 w3).2, w1, w2, e0, e1, e2, e3, e4⟩
    obtain ⟨b, off, spot⟩ := x
    have hspot : spot = none := by
      obtain ⟨_, _, _, _, _, _, _, _, _, _, _, c0, _⟩ := each 0 (by omega)
      simpa [Addr.add] using World.cell?_spot c0
    subst hspot
    refine ⟨b, off, rfl, fun k hk => ?_⟩
    obtain ⟨sel, key, mem, kind, num, a1, a2, a3, a4, a5, a6, c0, c1, c2, c3, c4⟩ := each k (by omega)
    rw [add_plain] at c0 c1 c2 c3 c4
    exact ⟨sel, key, mem, kind, num, a1, a2, a3, a4, a5, a6, c0, by simpa [Nat.add_assoc] using c1, by simpa [Nat.add_assoc] using c2, by simpa [Nat.add_assoc] using c3, by simpa [Nat.add_assoc] using c4⟩

theorem walk (user : ByteArray) (hu : user.size ≤ maxLen) (a : Option Addr) (len cap : Nat) (w : World) (he : 0 < len → ∃ b off, a = some ⟨b, off, none⟩ ∧ Ents w b off len) :
    Calls Yba.prog 3 #[.string user, .slice a len cap] w fun e w' => e = .returned (.bool true) ∧ Below w.heap.size w w' := by
  by_cases h1 : 1024 < len
  · exact long_any user a len cap w h1
  · by_cases h2 : 0 < len
    · obtain ⟨b, off, rfl, hents⟩ := he h2
      exact walkMem user hu b off len cap w (by omega) hents
    · obtain rfl : len = 0 := by omega
      exact none_any user hu a cap w

set_option maxRecDepth 100000 in
theorem lifted (os : Os) (started : os.Started) (H : Type) (enc : TypeId × Value → H) :
    ReturnsInHanded {} Yba.checked os 3 .any (Rows.lawS1644AMembershipSpec.pre6 enc Yba.prog Yba.f3 Rows.lawS1644AMembershipRow.domain false) (Rows.lawS1644AMembershipSpec.post enc Yba.prog Yba.f3 false true false false) := by
  refine returnsInHanded_of_change (C := Yba.checked) own started (by kernel_rfl) Yba.func3
    (ChangeSpec.witness6 (enc := enc) (C := Yba.checked) false ⟨#[], #[.string ⟨#[]⟩, .slice none 0 0], []⟩ 8 (by kernel_rfl) (by kernel_rfl) (by kernel_rfl) (by kernel_rfl)) ?_
  intro W base args ds gs before hval0 hW hcnd _
  have hval : ∀ (j : Nat) t v, Yba.f3.params[j]? = some t → args[j]? = some v → Value.okWide Yba.prog W .any base t v := hval0
  have hW' := hW
  obtain ⟨p, q, hA0, hV, rfl, hfz, hnd⟩ := hW
  have hA : DataW.TrodAll enc Yba.prog W 0 (fun _ => true) true Yba.f3.params.toList args.toList ds p := hA0
  rw [Yba.params3] at hA hval
  obtain ⟨v0, vs0, d0, ds0, p0, q0, hargs, rfl, rfl, h0, r0⟩ := trodAll_cons hA
  obtain ⟨v1, vs1, d1, ds1, p1, q1, rfl, rfl, rfl, h1, r1⟩ := trodAll_cons r0
  obtain ⟨rfl, rfl, rfl⟩ := trodAll_nil r1
  obtain rfl : args = #[v0, v1] := by cases args; simp_all
  obtain ⟨rfl, rfl⟩ := trodVars_none hV
  obtain ⟨a0, rfl, rfl, rfl, w0⟩ := open_string Yba.underlying9 (hval 0 9 v0 rfl rfl) h0
  obtain ⟨a1, len1, cap1, rfl⟩ := okWide_slice Yba.underlying22 (hval 1 22 v1 rfl rfl)
  have k1 := h1
  have lt1 : ∀ x ∈ p1, x.block < W.heap.size := by obtain ⟨m, hm⟩ := k1; exact DataW.trod_lt m _ _ _ hm
  clear hA0 hval0
  refine (walk a0 w0 a1 len1 cap1 W (fun hl => open_ents h1 hl)).mono fun e W' ⟨he, bel⟩ => ?_
  subst he
  exact ⟨_, rfl, _, _, _, [], _, [], hW', trodAll_mk1 (shut_bool Yba.underlying4 _), (trodAll_cons_mk (shut_string Yba.underlying9 w0) (trodAll_cons_mk (Below.trod laidOut (by kernel_rfl) (of_decide_eq_true (by kernel_rfl)) k1 bel lt1) trodAll_mk0)), rfl, bel.frame _, fun h => by cases h⟩

theorem over : Rows.lawS1644AMembershipRow.holds Yba.pinned (OpenSpec.ofChange Rows.lawS1644AMembershipSpec) :=
  OpenClaim.holds_of_wide 3 Yba.f3 rfl rfl rfl rfl rfl rfl rfl ⟨rfl, rfl, rfl, rfl, rfl⟩ rfl rfl rfl rfl rfl (by kernel_rfl) Yba.func3 (by kernel_rfl)
    (of_decide_eq_true (by kernel_rfl)) (by unfold Func.isWrapper; first | (rw [if_pos (by decide +kernel)]; kernel_rfl) | (rw [if_neg (by decide +kernel)]; exact ⟨rfl, rfl⟩))
    (fun os started H enc _ => lifted os started H enc)

/-- THE STATEMENT -/
theorem proved : Rows.LawS1644AMembershipSaid := over
#print axioms proved
end Go.Proofs.Ybulkahag.lawS1644AMembership
