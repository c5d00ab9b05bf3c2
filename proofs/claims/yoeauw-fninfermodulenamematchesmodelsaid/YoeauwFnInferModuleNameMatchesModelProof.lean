/-
  THE PROOF OF 'Rows.FnInferModuleNameMatchesModelSaid' ('github.com/d5/tengo/v2/zzlaws_root_b3.FnInferModuleNameMatchesModel'), over the walks of YoeauwMatch.lean and YoeauwEarly.lean. The frame is the guide's shell for a law over slices, at this function's number and types.
-/
import Derived.Test.YoeauwMatch
import Derived.Test.YoeauwEarly
import Derived.Test.YoeauwOpen
import Derived.ProofKit
import Derived.ChangeOld
import Derived.Carry
namespace Go.Proofs.Yoeauw.fnInferModuleNameMatchesModel
open Go.ChangeShapes Go.WideShapes Go.ChangeAt Go.RowKit

theorem own : ownKnob Eaug.prog.godebug = none := by kernel_rfl
theorem laidOut : laidOutB Eaug.prog = true := by kernel_rfl

/-- The walk, whatever the four slices. -/
theorem walk (a0 a1 a2 a3 : Option Addr) (l0 l1 l2 l3 c0 c1 c2 c3 : Nat) (s0 s1 s2 : List ByteArray) (z3 : List Int) (w : World)
    (n0 : a0 = none → l0 = 0) (n1 : a1 = none → l1 = 0) (n2 : a2 = none → l2 = 0) (n3 : a3 = none → l3 = 0)
    (h0 : Strs w a0 l0 c0 s0) (h1 : Strs w a1 l1 c1 s1) (h2 : Strs w a2 l2 c2 s2) (h3 : Ints w a3 l3 c3 z3) (m0 : ∀ s ∈ s0, s.size ≤ maxLen) (m2 : ∀ s ∈ s2, s.size ≤ maxLen) :
    Calls Eaug.prog 3 #[.slice a0 l0 c0, .slice a1 l1 c1, .slice a2 l2 c2, .slice a3 l3 c3] w fun e w' => e = .returned (.bool true) ∧ Below w.heap.size w w' := by
  by_cases b : l0 ≤ 65536 ∧ l1 ≤ 65536 ∧ l2 ≤ 65536 ∧ l3 ≤ 65536
  · exact match_main a0 a1 a2 a3 l0 l1 l2 l3 c0 c1 c2 c3 s0 s1 s2 z3 w b.1 b.2.1 b.2.2.1 b.2.2.2 n0 n1 n2 n3 h0 h1 h2 h3 m0 m2
  · exact match_early a0 a1 a2 a3 l0 l1 l2 l3 c0 c1 c2 c3 s0 s1 s2 w (by omega) h0 h1 h2

set_option maxRecDepth 100000 in
theorem lifted (os : Os) (started : os.Started) (H : Type) (enc : TypeId × Value → H) :
    ReturnsInHanded {} Eaug.checked os 3 .any (Rows.fnInferModuleNameMatchesModelSpec.pre6 enc Eaug.prog Eaug.f3 Rows.fnInferModuleNameMatchesModelRow.domain false) (Rows.fnInferModuleNameMatchesModelSpec.post enc Eaug.prog Eaug.f3 false true false false) := by
  refine returnsInHanded_of_change (C := Eaug.checked) own started (by kernel_rfl) Eaug.func3
    (ChangeSpec.witness6 (enc := enc) (C := Eaug.checked) false ⟨#[], #[.slice none 0 0, .slice none 0 0, .slice none 0 0, .slice none 0 0], []⟩ 8 (by kernel_rfl) (by kernel_rfl) (by kernel_rfl) (by kernel_rfl)) ?_
  intro W base args ds gs before hval0 hW hcnd _
  have hval : ∀ (j : Nat) t v, Eaug.f3.params[j]? = some t → args[j]? = some v → Value.okWide Eaug.prog W .any base t v := hval0
  have hW' := hW
  obtain ⟨p, q, hA0, hV, rfl, hfz, hnd⟩ := hW
  have hA : DataW.TrodAll enc Eaug.prog W 0 (fun _ => true) true Eaug.f3.params.toList args.toList ds p := hA0
  rw [Eaug.params3] at hA hval
  obtain ⟨v0, vs0, d0, ds0, p0, q0, hargs, rfl, rfl, h0, r0⟩ := trodAll_cons hA
  obtain ⟨v1, vs1, d1, ds1, p1, q1, rfl, rfl, rfl, h1, r1⟩ := trodAll_cons r0
  obtain ⟨v2, vs2, d2, ds2, p2, q2, rfl, rfl, rfl, h2, r2⟩ := trodAll_cons r1
  obtain ⟨v3, vs3, d3, ds3, p3, q3, rfl, rfl, rfl, h3, r3⟩ := trodAll_cons r2
  obtain ⟨rfl, rfl, rfl⟩ := trodAll_nil r3
  obtain rfl : args = #[v0, v1, v2, v3] := by cases args; simp_all
  obtain ⟨rfl, rfl⟩ := trodVars_none hV
  obtain ⟨a0, l0, c0, rfl⟩ := okWide_slice Eaug.underlying22 (hval 0 22 v0 rfl rfl)
  obtain ⟨a1, l1, c1, rfl⟩ := okWide_slice Eaug.underlying22 (hval 1 22 v1 rfl rfl)
  obtain ⟨a2, l2, c2, rfl⟩ := okWide_slice Eaug.underlying22 (hval 2 22 v2 rfl rfl)
  obtain ⟨a3, l3, c3, rfl⟩ := okWide_slice Eaug.underlying23 (hval 3 23 v3 rfl rfl)
  have lt0 : ∀ x ∈ p0, x.block < W.heap.size := by obtain ⟨m, hm⟩ := h0; exact DataW.trod_lt m _ _ _ hm
  have lt1 : ∀ x ∈ p1, x.block < W.heap.size := by obtain ⟨m, hm⟩ := h1; exact DataW.trod_lt m _ _ _ hm
  have lt2 : ∀ x ∈ p2, x.block < W.heap.size := by obtain ⟨m, hm⟩ := h2; exact DataW.trod_lt m _ _ _ hm
  have lt3 : ∀ x ∈ p3, x.block < W.heap.size := by obtain ⟨m, hm⟩ := h3; exact DataW.trod_lt m _ _ _ hm
  obtain ⟨s0, n0, g0, m0⟩ := strs_of h0
  obtain ⟨s1, n1, g1, _⟩ := strs_of h1
  obtain ⟨s2, n2, g2, m2⟩ := strs_of h2
  obtain ⟨z3, n3, g3⟩ := ints_of h3
  clear hA0 hval0
  refine (walk a0 a1 a2 a3 l0 l1 l2 l3 c0 c1 c2 c3 s0 s1 s2 z3 W n0 n1 n2 n3 g0 g1 g2 g3 m0 m2).mono fun e W' ⟨he, bel⟩ => ?_
  subst he
  have t0 := Below.trod laidOut (by kernel_rfl) (of_decide_eq_true (by kernel_rfl)) h0 bel lt0
  have t1 := Below.trod laidOut (by kernel_rfl) (of_decide_eq_true (by kernel_rfl)) h1 bel lt1
  have t2 := Below.trod laidOut (by kernel_rfl) (of_decide_eq_true (by kernel_rfl)) h2 bel lt2
  have t3 := Below.trod laidOut (by kernel_rfl) (of_decide_eq_true (by kernel_rfl)) h3 bel lt3
  exact ⟨_, rfl, _, _, _, [], _, [], hW', trodAll_mk1 (shut_bool Eaug.underlying4 _), trodAll_mk4 t0 t1 t2 t3, rfl, bel.frame _, fun h => by cases h⟩

theorem over : Rows.fnInferModuleNameMatchesModelRow.holds Eaug.pinned (OpenSpec.ofChange Rows.fnInferModuleNameMatchesModelSpec) :=
  OpenClaim.holds_of_wide 3 Eaug.f3 rfl rfl rfl rfl rfl rfl rfl ⟨rfl, rfl, rfl, rfl, rfl⟩ rfl rfl rfl rfl rfl (by kernel_rfl) Eaug.func3 (by kernel_rfl)
    (of_decide_eq_true (by kernel_rfl)) (by unfold Func.isWrapper; first | (rw [if_pos (by decide +kernel)]; kernel_rfl) | (rw [if_neg (by decide +kernel)]; exact ⟨rfl, rfl⟩))
    (fun os started H enc _ => lifted os started H enc)

/-- THE STATEMENT -/
theorem proved : Rows.FnInferModuleNameMatchesModelSaid :=
  over
#print axioms proved
end Go.Proofs.Yoeauw.fnInferModuleNameMatchesModel
