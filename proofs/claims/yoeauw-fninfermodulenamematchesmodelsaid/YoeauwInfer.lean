/-
  THE WALKS OF inferModuleName (13) AND ZZinferModuleName (8), over what the look-up at "__module_name__" gives.
-/
import Derived.Test.YoeauwRows
import Derived.WalkKit
import Derived.WalkSpells
import Derived.WalkLawsBesides
import Derived.Maps.Own
import Derived.Maps.Views
namespace Go.Proofs.Yoeauw
open Go.RowKit

/-- 'x.(*String)' with 'ok', where x holds a *String. -/
theorem assert_string (v : Value) (w : World) : (Instr.typeAssert (.iface 37 v) 44 37 true).run Eaug.prog w = .ok (.tuple #[v, .bool true]) w := by
  simp [Instr.typeAssert, run_underlying Eaug.underlying37]
/-- .. where x holds an *Int. -/
theorem assert_int (v : Value) (w : World) : (Instr.typeAssert (.iface 45 v) 44 37 true).run Eaug.prog w = .ok (.tuple #[.pointer none, .bool false]) w := by
  simp [Instr.typeAssert, run_underlying Eaug.underlying37]
/-- .. where x is nil. -/
theorem assert_nil (w : World) : (Instr.typeAssert .nilIface 44 37 true).run Eaug.prog w = .ok (.tuple #[.pointer none, .bool false]) w := by
  simp [Instr.typeAssert, run_underlying Eaug.underlying37]

/-- The look-up at the key, in world w, in map B. -/
def look (B : Nat) (w : World) (v : Value) : Prop :=
  (Instr.lookup 33 (.map (some B)) (.string ⟨#[95, 95, 109, 111, 100, 117, 108, 101, 95, 110, 97, 109, 101, 95, 95]⟩) false).run Eaug.prog w = .ok v w

/-- The look-up gives a *String: her text comes back. -/
theorem infer_string (mb B q : Nat) (s : ByteArray) (w : World) (c0 : w.cell? ⟨mb, 0, none⟩ = some (.map (some B)))
    (hl0 : look B w (.iface 37 (.pointer (some ⟨q, 0, none⟩)))) (c1 : w.cell? ⟨q, 0, none⟩ = some (.string s)) :
    Calls Eaug.prog 13 #[.pointer (some ⟨mb, 0, none⟩)] w fun e w' => e = .returned (.string s) ∧ w' = w := by
  have hl := hl0
  unfold look at hl
  clear hl0
  have ha := assert_string
  go_enter Eaug.func13, Eaug.ntmps13
  go_wp2
  go_ret
  exact ⟨rfl, rfl⟩

/-- The look-up gives an *Int: the empty text. -/
theorem infer_int (mb B : Nat) (v : Value) (w : World) (c0 : w.cell? ⟨mb, 0, none⟩ = some (.map (some B)))
    (hl0 : look B w (.iface 45 v)) :
    Calls Eaug.prog 13 #[.pointer (some ⟨mb, 0, none⟩)] w fun e w' => e = .returned (.string ⟨#[]⟩) ∧ w' = w := by
  have hl := hl0
  unfold look at hl
  clear hl0
  have ha := assert_int
  go_enter Eaug.func13, Eaug.ntmps13
  go_wp2
  go_ret
  exact ⟨rfl, rfl⟩

/-- The look-up finds nothing: the empty text. -/
theorem infer_nil (mb B : Nat) (w : World) (c0 : w.cell? ⟨mb, 0, none⟩ = some (.map (some B)))
    (hl0 : look B w .nilIface) :
    Calls Eaug.prog 13 #[.pointer (some ⟨mb, 0, none⟩)] w fun e w' => e = .returned (.string ⟨#[]⟩) ∧ w' = w := by
  have hl := hl0
  unfold look at hl
  clear hl0
  have ha := assert_nil
  go_enter Eaug.func13, Eaug.ntmps13
  go_wp2
  go_ret
  exact ⟨rfl, rfl⟩

/-- WHAT IS INFERRED, in one word: 'Named B w s': map B, in world w, names the module s. -/
def Named (B : Nat) (w : World) (s : ByteArray) : Prop :=
  (∃ q, look B w (.iface 37 (.pointer (some ⟨q, 0, none⟩))) ∧ w.cell? ⟨q, 0, none⟩ = some (.string s)) ∨ ((∃ v, look B w (.iface 45 v)) ∧ s = ⟨#[]⟩) ∨ (look B w .nilIface ∧ s = ⟨#[]⟩)

theorem infer_named (mb B : Nat) (s : ByteArray) (w : World) (c0 : w.cell? ⟨mb, 0, none⟩ = some (.map (some B))) (hn : Named B w s) :
    Calls Eaug.prog 13 #[.pointer (some ⟨mb, 0, none⟩)] w fun e w' => e = .returned (.string s) ∧ w' = w := by
  rcases hn with ⟨q, hl, c1⟩ | ⟨⟨v, hl⟩, rfl⟩ | ⟨hl, rfl⟩
  · exact infer_string mb B q s w c0 hl c1
  · exact infer_int mb B v w c0 hl
  · exact infer_nil mb B w c0 hl

theorem zzinfer_named (mb B : Nat) (s : ByteArray) (w : World) (c0 : w.cell? ⟨mb, 0, none⟩ = some (.map (some B))) (hn : Named B w s) :
    Calls Eaug.prog 8 #[.pointer (some ⟨mb, 0, none⟩)] w fun e w' => e = .returned (.string s) ∧ w' = w := by
  go_enter Eaug.func8, Eaug.ntmps8
  go_wp2_with (go_at_call 13; refine (infer_named mb B s _ c0 hn).mono ?_; rintro e w' ⟨rfl, rfl⟩)
  go_ret
  exact ⟨rfl, rfl⟩

end Go.Proofs.Yoeauw
