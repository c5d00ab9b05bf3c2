/-
  No cell of these rows narrows 'for every input' (looked for: loops, veiled, ifaces, maps, wideKeys, modest, calm, conditions, laid).
  DERIVED. THE GIVEN ROWS OF THIS SEAT. 2 by the template 'for every input the law returns true; each argument reads behind the call as it read before'; 0 by the template 'total and deterministic' (their statements: YoeauwTotals.lean).
  GIVEN WITH THE SEED: the statements are not yours to turn. If you find one false, say at which input.
  Laid BY PROGRAM, IN A SANDBOX (cutbox-rows.mjs): the forced cells as the released guide's own fill.sh prints them over the translation c6b3c05f78e87495… (all of the seat's roots in one cut). By AI agents, Wed Nov 11 2026. No macro, syntax, notation, axiom, sorry.
-/
import Derived.Test.YoeauwChecked
import GoSem.Claim
import GoSem.ClaimJoined
import GoSem.ClaimMapViews
import Derived.JoinedTies
import Derived.KernelRfl
namespace Go.Proofs.Yoeauw
/- THE CELL 'sum', in the pinned program and in every row, IS THE sha256 OF THE DUMP (.gsa) THAT YoeauwProg.lean LOADS. Nothing in Lean hashes anything: it is a label: what it is worth is what the hold of that sum in a sandbox is worth. -/
noncomputable def Eaug.pinned : Pinned := { name := "yoeauw", sum := "c6b3c05f78e8749559418ab0b81a46e427af0582974ceac5238863ec3fa0104b", checked := Eaug.checked }
namespace Rows
def none {H : Type} : Left H := { results := [], args := [] }

/-- 'zzlaws_root_b3.FnInferModuleNameMatchesModel': WHATEVER THE INPUT: true; the input reads as it did. -/
def fnInferModuleNameMatchesModelSpec : ChangeSpec := { name := "fnInferModuleNameMatchesModel", fn := fun _ => fun
  | [d1, d2, d3, d4] => { results := [.lit (.bool true)], args := [d1, d2, d3, d4] }
  | _ => none }
def fnInferModuleNameMatchesModelRow : OpenClaim := { program := "yoeauw", sum := "c6b3c05f78e8749559418ab0b81a46e427af0582974ceac5238863ec3fa0104b", func := "github.com/d5/tengo/v2/zzlaws_root_b3.FnInferModuleNameMatchesModel", spec := "fnInferModuleNameMatchesModel", apart := false }
def FnInferModuleNameMatchesModelSaid : Prop := fnInferModuleNameMatchesModelRow.holds Eaug.pinned (OpenSpec.ofChange fnInferModuleNameMatchesModelSpec)

/-- ITS FALSE NEIGHBOUR: 'it returns false'. Refute it at one input. -/
def fnInferModuleNameMatchesModelWrong : ChangeSpec := { name := "fnInferModuleNameMatchesModel", fn := fun _ => fun
  | [d1, d2, d3, d4] => { results := [.lit (.bool false)], args := [d1, d2, d3, d4] }
  | _ => none }
def FnInferModuleNameMatchesModelWrongFalsely : Prop := fnInferModuleNameMatchesModelRow.holds Eaug.pinned (OpenSpec.ofChange fnInferModuleNameMatchesModelWrong)

/-- 'zzlaws_root_b3.FnAsImmutableMapNameRoundTrips': WHATEVER THE INPUT: true; the input reads as it did. -/
def fnAsImmutableMapNameRoundTripsSpec : ChangeSpec := { name := "fnAsImmutableMapNameRoundTrips", fn := fun _ => fun
  | [d] => { results := [.lit (.bool true)], args := [d] }
  | _ => none }
def fnAsImmutableMapNameRoundTripsRow : OpenClaim := { program := "yoeauw", sum := "c6b3c05f78e8749559418ab0b81a46e427af0582974ceac5238863ec3fa0104b", func := "github.com/d5/tengo/v2/zzlaws_root_b3.FnAsImmutableMapNameRoundTrips", spec := "fnAsImmutableMapNameRoundTrips", unfollowed := true, recurses := true, apart := false }
def FnAsImmutableMapNameRoundTripsSaid : Prop := fnAsImmutableMapNameRoundTripsRow.holds Eaug.pinned (OpenSpec.ofChange fnAsImmutableMapNameRoundTripsSpec)

/-- ITS FALSE NEIGHBOUR: 'it returns false'. Refute it at one input. -/
def fnAsImmutableMapNameRoundTripsWrong : ChangeSpec := { name := "fnAsImmutableMapNameRoundTrips", fn := fun _ => fun
  | [d] => { results := [.lit (.bool false)], args := [d] }
  | _ => none }
def FnAsImmutableMapNameRoundTripsWrongFalsely : Prop := fnAsImmutableMapNameRoundTripsRow.holds Eaug.pinned (OpenSpec.ofChange fnAsImmutableMapNameRoundTripsWrong)

end Rows
end Go.Proofs.Yoeauw
