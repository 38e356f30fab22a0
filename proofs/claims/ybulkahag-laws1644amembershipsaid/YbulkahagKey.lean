import Derived.Test.YbulkahagEv
import Derived.DeepKeys4
namespace Go.Proofs.Ybulkahag
open Go.RowKit
set_option linter.unusedVariables false

theorem laidOut : laidOutB Yba.prog = true := by kernel_rfl
theorem ktype51 : Yba.prog.keyType 51 = true := by kernel_rfl
theorem ktype51' : Yba.prog.keyTypeAt 5 51 = true := by kernel_rfl
theorem cells51 : Yba.prog.cellsOf 51 = 2 := by kernel_rfl
theorem cells9 : Yba.prog.cellsOf 9 = 1 := by kernel_rfl
theorem under51 : Yba.prog.underlying 51 = some (.struct #[{ name := "Type", type := 9, offset := 0, embedded := false, tag := "", pkgPath := "", byteOffset := 0 }, { name := "StateKey", type := 9, offset := 1, embedded := false, tag := "", pkgPath := "", byteOffset := 16 }]) := by kernel_rfl
theorem keyed51 : Maps.Keyed Yba.prog 51 := Maps.Keyed.of_law (deep_law_laid laidOut (m := 5) (by decide) (of_decide_eq_true (by kernel_rfl)) ktype51' (by rw [under51]))

theorem keyLits51 (n : Nat) (a b : ByteArray) (ha : a.size ≤ maxLen) (hb : b.size ≤ maxLen) : Yba.prog.keyLits (n + 2) 51 [.string a, .string b] = some [.string a.data.toList, .string b.data.toList] := by
  unfold Program.keyLits
  rw [under51]
  simp only [cells51, List.length_cons, List.length_nil]
  have h9 : ∀ s : ByteArray, s.size ≤ maxLen → Yba.prog.keyLits (n + 1) 9 [.string s] = some [.string s.data.toList] := by
    intro s hs
    unfold Program.keyLits
    rw [Yba.underlying9]
    simp [hs]
  simp [cells9, h9 a ha, h9 b hb]

theorem keyOf51 (a b : ByteArray) (ha : a.size ≤ maxLen) (hb : b.size ≤ maxLen) : ∃ l, keyOf Yba.prog 51 (.agg #[.string a, .string b]) = some l := by
  refine ⟨.string (keyBytes [.string a.data.toList, .string b.data.toList]), ?_⟩
  have hf : (Value.agg #[.string a, .string b]).formed Yba.prog 51 = true := by
    unfold Value.formed
    rw [under51, cells51]
    rfl
  have hk := keyLits51 (Yba.prog.types.size - 1) a b ha hb
  have hts : Yba.prog.types.size - 1 + 2 = Yba.prog.types.size + 1 := by
    have : 0 < Yba.prog.types.size := of_decide_eq_true (by kernel_rfl)
    omega
  rw [hts] at hk
  unfold keyOf
  rw [under51]
  simp only [ktype51, hf, Bool.and_self, if_true]
  rw [show (Value.agg #[.string a, .string b]).cells.toList = [.string a, .string b] from rfl, hk]
  rfl

/-- how an element of the map is told: by itself -/
def R (v : Value) : Option (DataW Value × List MemPlace) := some (.held v, [])

theorem zero29 (w : World) : (zeroValue 29).run Yba.prog w = .ok (.pointer none) w := by kernel_rfl

/-- the pointer pv leads, in w, to an event whose membership is 'want' -/
def Ev (w : World) (pv : Value) (want : ByteArray) : Prop :=
  (pv = .pointer none ∧ want = ⟨#[]⟩) ∨
  (∃ eb cb key, pv = .pointer (some ⟨eb, 0, none⟩) ∧ w.cell? ⟨eb, 11, none⟩ = some (.slice (some ⟨cb, 0, none⟩) 2 2) ∧ w.cell? ⟨cb, 0, none⟩ = some (.string ⟨#[100, 105, 115, 112, 108, 97, 121, 110, 97, 109, 101]⟩) ∧ w.cell? ⟨cb, 1, none⟩ = some (.iface 9 (.string key)) ∧
    w.cell? ⟨cb, 2, none⟩ = some (.string ⟨#[109, 101, 109, 98, 101, 114, 115, 104, 105, 112]⟩) ∧ w.cell? ⟨cb, 3, none⟩ = some (.iface 9 (.string want))) ∨
  (∃ eb cb n, pv = .pointer (some ⟨eb, 0, none⟩) ∧ want = ⟨#[]⟩ ∧ w.cell? ⟨eb, 11, none⟩ = some (.slice (some ⟨cb, 0, none⟩) 1 1) ∧ w.cell? ⟨cb, 0, none⟩ = some (.string ⟨#[109, 101, 109, 98, 101, 114, 115, 104, 105, 112]⟩) ∧ w.cell? ⟨cb, 1, none⟩ = some (.iface 2 (.int .i64 n))) ∨
  (∃ eb cb mem, pv = .pointer (some ⟨eb, 0, none⟩) ∧ want = ⟨#[]⟩ ∧ w.cell? ⟨eb, 11, none⟩ = some (.slice (some ⟨cb, 0, none⟩) 1 1) ∧ w.cell? ⟨cb, 0, none⟩ = some (.string ⟨#[97, 118, 97, 116, 97, 114, 95, 117, 114, 108]⟩) ∧ w.cell? ⟨cb, 1, none⟩ = some (.iface 9 (.string mem)))

theorem Ev.kept {w w' : World} {pv : Value} {want : ByteArray} (h : Ev w pv want) (hk : ∀ a v, w.cell? a = some v → w'.cell? a = some v) : Ev w' pv want := by
  rcases h with h | ⟨eb, cb, key, h1, h2, h3, h4, h5, h6⟩ | ⟨eb, cb, n, h1, h2, h3, h4, h5⟩ | ⟨eb, cb, n, h1, h2, h3, h4, h5⟩
  · exact .inl h
  · exact .inr (.inl ⟨eb, cb, key, h1, hk _ _ h2, hk _ _ h3, hk _ _ h4, hk _ _ h5, hk _ _ h6⟩)
  · exact .inr (.inr (.inl ⟨eb, cb, n, h1, h2, hk _ _ h3, hk _ _ h4, hk _ _ h5⟩))
  · exact .inr (.inr (.inr ⟨eb, cb, n, h1, h2, hk _ _ h3, hk _ _ h4, hk _ _ h5⟩))

/-- "m.room.member" -/
def sMember : ByteArray := ⟨#[109, 46, 114, 111, 111, 109, 46, 109, 101, 109, 98, 101, 114]⟩

set_option maxHeartbeats 1000000 in
set_option maxRecDepth 100000 in
theorem member_nil (user : ByteArray) (mb : Nat) (w : World) (hr : (Instr.lookup 24 (.map (some mb)) (.agg #[.string ⟨#[109, 46, 114, 111, 111, 109, 46, 109, 101, 109, 98, 101, 114]⟩, .string user]) false).run Yba.prog w = .ok (.pointer none) w) :
    Calls Yba.prog 7 #[.map (some mb), .string user] w fun e w' => e = .returned (.string ⟨#[]⟩) ∧ Below w.heap.size w w' := by
  go_enter Yba.func7, Yba.ntmps7
  go_wp2
  go_ret
  exact ⟨rfl, Below.refl _ _⟩

set_option maxHeartbeats 1000000 in
set_option maxRecDepth 100000 in
theorem member_some (user : ByteArray) (mb eb : Nat) (want : ByteArray) (ok : Bool) (w : World) (hr : (Instr.lookup 24 (.map (some mb)) (.agg #[.string ⟨#[109, 46, 114, 111, 111, 109, 46, 109, 101, 109, 98, 101, 114]⟩, .string user]) false).run Yba.prog w = .ok (.pointer (some ⟨eb, 0, none⟩)) w)
    (hev : Calls Yba.prog 11 #[.pointer (some ⟨eb, 0, none⟩)] w fun e w' => e = .returned (.tuple #[.string want, .bool ok]) ∧ Below w.heap.size w w') :
    Calls Yba.prog 7 #[.map (some mb), .string user] w fun e w' => e = .returned (.string want) ∧ Below w.heap.size w w' := by
  go_enter Yba.func7, Yba.ntmps7
  go_wp2_with (go_at_call 11; refine hev.mono ?_; rintro e w1 ⟨rfl, hb1⟩)
  go_ret
  exact ⟨rfl, hb1⟩

theorem member_any (user : ByteArray) (hu : user.size ≤ maxLen) (mb n : Nat) (D : DataW Value) (pv : Value) (want : ByteArray) (w : World) (ku : Lit) (hku : keyOf Yba.prog 51 (.agg #[.string sMember, .string user]) = some ku)
    (hown : w.ownsMap Yba.prog 51 R mb n D) (hat : D.atKey ku (.held (.pointer none)) = .held pv) (hev : Ev w pv want) :
    Calls Yba.prog 7 #[.map (some mb), .string user] w fun e w' => e = .returned (.string want) ∧ Below w.heap.size w w' := by
  obtain ⟨v, ps, hrun, hv⟩ := hown.lookup keyed51 Yba.underlying24 (zero29 w) (zd := .held (.pointer none)) (zp := []) rfl hku
  rw [hat] at hv
  simp only [R, Option.some.injEq, Prod.mk.injEq, DataW.held.injEq] at hv
  obtain ⟨rfl, _⟩ := hv
  rcases hev with ⟨rfl, rfl⟩ | ⟨eb, cb, key, rfl, h2, h3, h4, h5, h6⟩ | ⟨eb, cb, m, rfl, rfl, h3, h4, h5⟩ | ⟨eb, cb, m, rfl, rfl, h3, h4, h5⟩
  · exact member_nil user mb w hrun
  · exact member_some user mb eb want true w hrun (evA eb cb key want w h2 h3 h4 h5 h6)
  · exact member_some user mb eb _ false w hrun (evB eb cb m w h3 h4 h5)
  · exact member_some user mb eb _ false w hrun (evC eb cb m w h3 h4 h5)
end Go.Proofs.Ybulkahag
