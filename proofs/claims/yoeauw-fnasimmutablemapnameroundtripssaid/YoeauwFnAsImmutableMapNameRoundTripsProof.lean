/-
  THE PROOF OF 'Rows.FnAsImmutableMapNameRoundTripsSaid' ('github.com/d5/tengo/v2/zzlaws_root_b3.FnAsImmutableMapNameRoundTrips'), over the walks of YoeauwRound.lean. The frame is the given shell's, but for the last row of 'lifted': the world behind the call is told by 'Below'.
-/
import Derived.Test.YoeauwRound
import Derived.ProofKit
import Derived.ChangeOld
namespace Go.Proofs.Yoeauw.fnAsImmutableMapNameRoundTrips
open Go.ChangeShapes Go.WideShapes Go.ChangeAt Go.RowKit
open Go.ChangeMaps (open_string shut_string)

theorem own : ownKnob Eaug.prog.godebug = none := by kernel_rfl

/-- The walk, whatever the text. -/
theorem walk (a0 : ByteArray) (w : World) :
    Calls Eaug.prog 4 #[.string a0] w fun e w' => e = .returned (.bool true) ∧ Below w.heap.size w w' := by
  by_cases h : a0.size ≤ 1048576
  · exact round_yes a0 w h
  · exact round_no a0 w (by omega)

set_option maxRecDepth 100000 in
theorem lifted (os : Os) (started : os.Started) (H : Type) (enc : TypeId × Value → H) :
    ReturnsInHanded {} Eaug.checked os 4 .any (Rows.fnAsImmutableMapNameRoundTripsSpec.pre6 enc Eaug.prog Eaug.f4 Rows.fnAsImmutableMapNameRoundTripsRow.domain false) (Rows.fnAsImmutableMapNameRoundTripsSpec.post enc Eaug.prog Eaug.f4 false true false false) := by
  refine returnsInHanded_of_change (C := Eaug.checked) own started (by kernel_rfl) Eaug.func4
    (ChangeSpec.witness6 (enc := enc) (C := Eaug.checked) false ⟨#[], #[.string ByteArray.empty], []⟩ 8 (by kernel_rfl) (by kernel_rfl) (by kernel_rfl) (by kernel_rfl)) ?_
  intro W base args ds gs before hval0 hW hcnd _
  have hval : ∀ (j : Nat) t v, Eaug.f4.params[j]? = some t → args[j]? = some v → Value.okWide Eaug.prog W .any base t v := hval0
  have hW' := hW
  obtain ⟨p, q, hA0, hV, rfl, hfz, hnd⟩ := hW
  have hA : DataW.TrodAll enc Eaug.prog W 0 (fun _ => true) true Eaug.f4.params.toList args.toList ds p := hA0
  rw [Eaug.params4] at hA hval
  obtain ⟨v0, vs0, d0, ds0, p0, q0, hargs, rfl, rfl, h0, r0⟩ := trodAll_cons hA
  obtain ⟨rfl, rfl, rfl⟩ := trodAll_nil r0
  obtain rfl : args = #[v0] := by cases args; simp_all
  obtain ⟨rfl, rfl⟩ := trodVars_none hV
  obtain ⟨a0, rfl, rfl, rfl, w0⟩ := open_string Eaug.underlying9 (hval 0 9 v0 rfl rfl) h0
  clear hA0 hval0
  refine (walk a0 W).mono fun e W' ⟨he, bel⟩ => ?_
  subst he
  exact ⟨_, rfl, _, _, _, [], _, [], hW', trodAll_mk1 (shut_bool Eaug.underlying4 _), trodAll_mk1 (shut_string Eaug.underlying9 w0), rfl, bel.frame _, fun h => by cases h⟩

theorem over : Rows.fnAsImmutableMapNameRoundTripsRow.holds Eaug.pinned (OpenSpec.ofChange Rows.fnAsImmutableMapNameRoundTripsSpec) :=
  OpenClaim.holds_of_wide 4 Eaug.f4 rfl rfl rfl rfl rfl rfl rfl ⟨rfl, rfl, rfl, rfl, rfl⟩ rfl rfl rfl rfl rfl (by kernel_rfl) Eaug.func4 (by kernel_rfl)
    (of_decide_eq_true (by kernel_rfl)) (by unfold Func.isWrapper; first | (rw [if_pos (by decide +kernel)]; kernel_rfl) | (rw [if_neg (by decide +kernel)]; exact ⟨rfl, rfl⟩))
    (fun os started H enc _ => lifted os started H enc)

/-- THE STATEMENT -/
theorem proved : Rows.FnAsImmutableMapNameRoundTripsSaid :=
  over
#print axioms proved
end Go.Proofs.Yoeauw.fnAsImmutableMapNameRoundTrips
