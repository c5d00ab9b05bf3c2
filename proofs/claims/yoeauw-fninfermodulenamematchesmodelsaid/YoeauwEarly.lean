/-
  THE WALK OF FnInferModuleNameMatchesModel (3) WHERE A SLICE HAS MORE THAN 65536 ELEMENTS: true at once.
-/
import Derived.Test.YoeauwBytes
namespace Go.Proofs.Yoeauw
open Go.RowKit

set_option maxHeartbeats 1000000 in
theorem match_early (a0 a1 a2 a3 : Option Addr) (l0 l1 l2 l3 c0 c1 c2 c3 : Nat) (s0 s1 s2 : List ByteArray) (w : World)
    (hb : 65536 < l0 ∨ (l0 ≤ 65536 ∧ 65536 < l1) ∨ (l0 ≤ 65536 ∧ l1 ≤ 65536 ∧ 65536 < l2) ∨ (l0 ≤ 65536 ∧ l1 ≤ 65536 ∧ l2 ≤ 65536 ∧ 65536 < l3))
    (h0 : Strs w a0 l0 c0 s0) (h1 : Strs w a1 l1 c1 s1) (h2 : Strs w a2 l2 c2 s2) :
    Calls Eaug.prog 3 #[.slice a0 l0 c0, .slice a1 l1 c1, .slice a2 l2 c2, .slice a3 l3 c3] w fun e w' => e = .returned (.bool true) ∧ Below w.heap.size w w' := by
  go_enter Eaug.func3, Eaug.ntmps3
  go_wp2_with fail
  refine (bytes5 a0 a1 a2 a3 l0 l1 l2 l3 c0 c1 c2 c3 s0 s1 s2 _ h0 h1 h2).mono ?_
  rintro e w' ⟨⟨b, rfl⟩, hw⟩
  have hw := hw.symm
  subst hw
  clear h0 h1 h2
  cases b
  · go_wp2
    go_ret
    exact ⟨rfl, Below.refl _ _⟩
  rcases hb with h | ⟨h, h'⟩ | ⟨h, h', h''⟩ | ⟨h, h', h'', h'''⟩
  all_goals
    go_wp2
    go_ret
    exact ⟨rfl, Below.refl _ _⟩

end Go.Proofs.Yoeauw
