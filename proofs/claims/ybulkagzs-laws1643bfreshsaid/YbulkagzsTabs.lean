import Derived.Test.YbulkagzsTab
namespace Go.Proofs.Ybulkagzs
open Go.RowKit
set_option linter.unusedVariables false

theorem cons_of_len {α : Type} {l : List α} {n : Nat} (h : l.length = n + 1) : ∃ b l', l = b :: l' ∧ l'.length = n := by
  cases l with
  | nil => simp at h
  | cons b l' => exact ⟨b, l', rfl, by simpa using h⟩
theorem ex20 (bs : Array Value) (h0 : bs.size = 20) : ∃ b0 b1 b2 b3 b4 b5 b6 b7 b8 b9 b10 b11 b12 b13 b14 b15 b16 b17 b18 b19, bs = #[b0, b1, b2, b3, b4, b5, b6, b7, b8, b9, b10, b11, b12, b13, b14, b15, b16, b17, b18, b19] := by
  obtain ⟨l⟩ := bs
  have h : l.length = 19 + 1 := by simpa using h0
  clear h0
  obtain ⟨b0, l0, rfl, g0⟩ := cons_of_len h
  clear h
  obtain ⟨b1, l1, rfl, g1⟩ := cons_of_len g0
  clear g0
  obtain ⟨b2, l2, rfl, g2⟩ := cons_of_len g1
  clear g1
  obtain ⟨b3, l3, rfl, g3⟩ := cons_of_len g2
  clear g2
  obtain ⟨b4, l4, rfl, g4⟩ := cons_of_len g3
  clear g3
  obtain ⟨b5, l5, rfl, g5⟩ := cons_of_len g4
  clear g4
  obtain ⟨b6, l6, rfl, g6⟩ := cons_of_len g5
  clear g5
  obtain ⟨b7, l7, rfl, g7⟩ := cons_of_len g6
  clear g6
  obtain ⟨b8, l8, rfl, g8⟩ := cons_of_len g7
  clear g7
  obtain ⟨b9, l9, rfl, g9⟩ := cons_of_len g8
  clear g8
  obtain ⟨b10, l10, rfl, g10⟩ := cons_of_len g9
  clear g9
  obtain ⟨b11, l11, rfl, g11⟩ := cons_of_len g10
  clear g10
  obtain ⟨b12, l12, rfl, g12⟩ := cons_of_len g11
  clear g11
  obtain ⟨b13, l13, rfl, g13⟩ := cons_of_len g12
  clear g12
  obtain ⟨b14, l14, rfl, g14⟩ := cons_of_len g13
  clear g13
  obtain ⟨b15, l15, rfl, g15⟩ := cons_of_len g14
  clear g14
  obtain ⟨b16, l16, rfl, g16⟩ := cons_of_len g15
  clear g15
  obtain ⟨b17, l17, rfl, g17⟩ := cons_of_len g16
  clear g16
  obtain ⟨b18, l18, rfl, g18⟩ := cons_of_len g17
  clear g17
  obtain ⟨b19, l19, rfl, g19⟩ := cons_of_len g18
  clear g18
  obtain rfl : l19 = [] := List.eq_nil_of_length_eq_zero g19
  exact ⟨b0, b1, b2, b3, b4, b5, b6, b7, b8, b9, b10, b11, b12, b13, b14, b15, b16, b17, b18, b19, rfl⟩

/-- the 29 cells of a table -/
def tab (bs : Array Value) (k sa vs vn vf vl : Value) : Array Value := bs ++ #[k, sa, .int .i64 1, vs, vn, .slice none 0 0, vf, vl, .int .u64 0]

theorem built41x (b0 b1 b2 b3 b4 b5 b6 b7 b8 b9 b10 b11 b12 b13 b14 b15 b16 b17 b18 b19 : Value) (k sa : Int) :
    Yba.prog.built 41 [(0, .agg #[b0, b1, b2, b3, b4, b5, b6, b7, b8, b9, b10, b11, b12, b13, b14, b15, b16, b17, b18, b19]), (1, .int .i64 k), (2, .int .i64 sa), (3, .int .i64 1)] = some (tab #[b0, b1, b2, b3, b4, b5, b6, b7, b8, b9, b10, b11, b12, b13, b14, b15, b16, b17, b18, b19] (.int .i64 k) (.int .i64 sa) (.slice none 0 0) (.slice none 0 0) (.slice none 0 0) (.slice none 0 0)) := by kernel_rfl
theorem built41 (bs : Array Value) (h : bs.size = 20) (k sa : Int) :
    Yba.prog.built 41 [(0, .agg bs), (1, .int .i64 k), (2, .int .i64 sa), (3, .int .i64 1)] = some (tab bs (.int .i64 k) (.int .i64 sa) (.slice none 0 0) (.slice none 0 0) (.slice none 0 0) (.slice none 0 0)) := by
  obtain ⟨b0, b1, b2, b3, b4, b5, b6, b7, b8, b9, b10, b11, b12, b13, b14, b15, b16, b17, b18, b19, rfl⟩ := ex20 bs h
  exact built41x b0 b1 b2 b3 b4 b5 b6 b7 b8 b9 b10 b11 b12 b13 b14 b15 b16 b17 b18 b19 k sa
theorem tab_size (bs : Array Value) (h : bs.size = 20) (k sa vs vn vf vl : Value) : (tab bs k sa vs vn vf vl).size = 29 := by simp [tab, h]
theorem tab_setx (b0 b1 b2 b3 b4 b5 b6 b7 b8 b9 b10 b11 b12 b13 b14 b15 b16 b17 b18 b19 : Value) (k sa vs vn vf vl : Value) :
    (((((tab #[b0, b1, b2, b3, b4, b5, b6, b7, b8, b9, b10, b11, b12, b13, b14, b15, b16, b17, b18, b19] k sa (.slice none 0 0) (.slice none 0 0) (.slice none 0 0) (.slice none 0 0)).setIfInBounds 23 vs).setIfInBounds 26 vf).setIfInBounds 27 vl).setIfInBounds 24 vn) = tab #[b0, b1, b2, b3, b4, b5, b6, b7, b8, b9, b10, b11, b12, b13, b14, b15, b16, b17, b18, b19] k sa vs vn vf vl := by kernel_rfl
theorem tab_set (bs : Array Value) (h : bs.size = 20) (k sa vs vn vf vl : Value) :
    (((((tab bs k sa (.slice none 0 0) (.slice none 0 0) (.slice none 0 0) (.slice none 0 0)).setIfInBounds 23 vs).setIfInBounds 26 vf).setIfInBounds 27 vl).setIfInBounds 24 vn) = tab bs k sa vs vn vf vl := by
  obtain ⟨b0, b1, b2, b3, b4, b5, b6, b7, b8, b9, b10, b11, b12, b13, b14, b15, b16, b17, b18, b19, rfl⟩ := ex20 bs h
  exact tab_setx b0 b1 b2 b3 b4 b5 b6 b7 b8 b9 b10 b11 b12 b13 b14 b15 b16 b17 b18 b19 k sa vs vn vf vl
theorem tab_get (bs : Array Value) (h : bs.size = 20) (k sa vs vn vf vl : Value) :
    (tab bs k sa vs vn vf vl)[20]? = some k ∧ (tab bs k sa vs vn vf vl)[21]? = some sa ∧ (tab bs k sa vs vn vf vl)[22]? = some (.int .i64 1) ∧ (tab bs k sa vs vn vf vl)[23]? = some vs ∧ (tab bs k sa vs vn vf vl)[24]? = some vn ∧
    (tab bs k sa vs vn vf vl)[25]? = some (.slice none 0 0) ∧ (tab bs k sa vs vn vf vl)[26]? = some vf ∧ (tab bs k sa vs vn vf vl)[27]? = some vl ∧ (tab bs k sa vs vn vf vl)[28]? = some (.int .u64 0) := by
  simp [tab, h]
theorem tab_one (bs : Array Value) (h : bs.all (·.oneCell') = true) (k sa vs vn vf vl : Value) (h1 : k.oneCell' = true) (h2 : sa.oneCell' = true) (h3 : vs.oneCell' = true) (h4 : vn.oneCell' = true) (h5 : vf.oneCell' = true) (h6 : vl.oneCell' = true) : (tab bs k sa vs vn vf vl).all (·.oneCell') = true := by
  have e1 : (Value.int .i64 1).oneCell' = true := rfl
  have e2 : (Value.slice none 0 0).oneCell' = true := rfl
  have e3 : (Value.int .u64 0).oneCell' = true := rfl
  simp [tab, h, h1, h2, h3, h4, h5, h6, e1, e2, e3]
theorem Yba.size22 : (Yba.prog.info? 22).map (·.size) = some 20 := by kernel_rfl
theorem Yba.size24 : (Yba.prog.info? 24).map (·.size) = some 20 := by kernel_rfl
theorem Yba.size41 : (Yba.prog.info? 41).map (·.size) = some 29 := by kernel_rfl
theorem Yba.size33 : (Yba.prog.info? 33).map (·.size) = some 3 := by kernel_rfl
end Go.Proofs.Ybulkagzs
