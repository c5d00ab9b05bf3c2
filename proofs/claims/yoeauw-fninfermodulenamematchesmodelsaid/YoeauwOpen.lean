/-
  THE FOUR ARGUMENTS OF FnInferModuleNameMatchesModel, as the walk is told of them, out of their reading as data.
-/
import Derived.Test.YoeauwBase
import Derived.ProofKit
import Derived.SliceStrings
namespace Go.Proofs.Yoeauw
open Go.ChangeShapes Go.WideShapes Go.ChangeAt Go.RowKit

theorem getD_of {α : Type} {l : List α} {k : Nat} {x d : α} (h : l[k]? = some x) : l.getD k d = x := by simp [List.getD_eq_getElem?_getD, h]

theorem row_take {α : Type} {f : α → Value} {T : TypeId} {W : World} {A : Addr} {len cap : Nat} {xs : List α} {d : α} (hT : Eaug.prog.underlying T = some (.slice (Eaug.prog.elem T))) (hs : ∀ w', (sizeOf (Eaug.prog.elem T)).run Eaug.prog w' = .ok 1 w')
    (hl : len ≤ xs.length) (hc : ∀ i, i < xs.length → W.cell? (A.add i) = some (f (xs.getD i d))) : RowOf f T W (some A) len cap (xs.take len) := by
  refine RowOf.mk hT hs (by simp; omega) fun k x hx => ?_
  rw [List.getElem?_take] at hx
  split at hx
  · rw [hc k (by omega), getD_of hx]
  · cases hx

theorem cells9 : Eaug.prog.cellsOf 9 = 1 := by kernel_rfl
theorem cells2 : Eaug.prog.cellsOf 2 = 1 := by kernel_rfl

/-- A []string that came in. -/
theorem strs_of {H : Type} {enc : TypeId × Value → H} {W : World} {a : Option Addr} {len cap : Nat} {d : DataW H} {p : List MemPlace}
    (h : DataW.Trod enc Eaug.prog W 0 (fun _ => true) true 22 (.slice a len cap) d p) : ∃ ss, (a = none → len = 0) ∧ Strs W a len cap ss ∧ ∀ s ∈ ss, s.size ≤ maxLen := by
  obtain ⟨fuel, hf⟩ := h
  rcases open_strings Eaug.underlying22 Eaug.underlying9 cells9 hf with ⟨hcs, _⟩ | ⟨x, l, c, zs, hcs, _, hl, hm, hz, _, hcell, hwz⟩
  · simp [Value.cells] at hcs
    obtain ⟨rfl, rfl, rfl⟩ := hcs
    exact ⟨[], fun _ => rfl, RowOf.empty _ _ _ _ _, by simp⟩
  · simp [Value.cells] at hcs
    obtain ⟨rfl, rfl, rfl⟩ := hcs
    simp only [if_true] at hz
    exact ⟨zs.take len, (fun e => by cases e), row_take elem22 size9 (by omega) hcell, fun s hs => hwz s (List.mem_of_mem_take hs)⟩

/-- A []int64 that came in. -/
theorem ints_of {H : Type} {enc : TypeId × Value → H} {W : World} {a : Option Addr} {len cap : Nat} {d : DataW H} {p : List MemPlace}
    (h : DataW.Trod enc Eaug.prog W 0 (fun _ => true) true 23 (.slice a len cap) d p) : ∃ zs, (a = none → len = 0) ∧ Ints W a len cap zs := by
  obtain ⟨fuel, hf⟩ := h
  rcases open_ints Eaug.underlying23 Eaug.underlying2 cells2 hf with ⟨hcs, _⟩ | ⟨x, l, c, zs, hcs, _, hl, hm, hz, _, hcell, hwz⟩
  · simp [Value.cells] at hcs
    obtain ⟨rfl, rfl, rfl⟩ := hcs
    exact ⟨[], fun _ => rfl, RowOf.empty _ _ _ _ _⟩
  · simp [Value.cells] at hcs
    obtain ⟨rfl, rfl, rfl⟩ := hcs
    simp only [if_true] at hz
    exact ⟨zs.take len, (fun e => by cases e), row_take elem23 size2 (by omega) hcell⟩

end Go.Proofs.Yoeauw
