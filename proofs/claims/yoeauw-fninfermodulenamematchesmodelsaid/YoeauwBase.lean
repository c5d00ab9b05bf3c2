/-
  WHAT THE WALKS ARE TOLD OF A SLICE: 'RowOf f T w a len cap xs': the slice value '.slice a len cap' of type T reads, cell by cell, as the list xs (f: how an element stands in its cell). Nil, empty and the rest alike: of the address nothing is said but what an index gives.
-/
import Derived.Test.YoeauwInfer
namespace Go.Proofs.Yoeauw
open Go.RowKit

def RowOf {α : Type} (f : α → Value) (T : TypeId) (w : World) (a : Option Addr) (len cap : Nat) (xs : List α) : Prop :=
  xs.length = len ∧ ∀ k, k < len → ∃ b o x, xs[k]? = some x ∧ (∀ w', (Instr.indexAt T (.slice a len cap) (.int .i64 (k : Int))).run Eaug.prog w' = .ok (.pointer (some ⟨b, o, none⟩)) w') ∧ w.cell? ⟨b, o, none⟩ = some (f x)

theorem RowOf.later {α : Type} {f : α → Value} {T : TypeId} {w w1 : World} {a : Option Addr} {len cap : Nat} {xs : List α} (h : RowOf f T w a len cap xs) (hb : Below w.heap.size w w1) : RowOf f T w1 a len cap xs :=
  ⟨h.1, fun k hk => by
    obtain ⟨b, o, x, hx, hix, hc⟩ := h.2 k hk
    exact ⟨b, o, x, hx, hix, cell_later hb hc⟩⟩

/-- A slice over a row of cells that are known. -/
theorem RowOf.mk {α : Type} {f : α → Value} {T : TypeId} {w : World} {A : Addr} {len cap : Nat} {xs : List α} (hT : Eaug.prog.underlying T = some (.slice (Eaug.prog.elem T))) (hs : ∀ w', (sizeOf (Eaug.prog.elem T)).run Eaug.prog w' = .ok 1 w')
    (hl : xs.length = len) (hc : ∀ k x, xs[k]? = some x → w.cell? (A.add k) = some (f x)) : RowOf f T w (some A) len cap xs := by
  refine ⟨hl, fun k hk => ?_⟩
  have hx : xs[k]? = some (xs[k]'(by omega)) := by simp
  have h1 := hc k _ hx
  have hsp : (A.add k) = ⟨(A.add k).block, (A.add k).off, none⟩ := by
    have : (A.add k).spot = none := by
      unfold World.cell? at h1
      split at h1
      · split at h1
        · cases h1
        · rename_i hn; simpa using hn
      · cases h1
    cases hA : A.add k
    rw [hA] at this
    simp_all
  refine ⟨(A.add k).block, (A.add k).off, _, hx, fun w' => ?_, by rw [← hsp]; exact h1⟩
  rw [run_indexAt_slice w' T A len cap .i64 k hT, if_pos ⟨by omega, by omega⟩, hs w']
  show Result.ok (Value.pointer (some (A.add ((k : Int).toNat * 1)))) w' = _
  rw [Int.toNat_natCast, Nat.mul_one, ← hsp]

theorem RowOf.empty {α : Type} (f : α → Value) (T : TypeId) (w : World) (a : Option Addr) (cap : Nat) : RowOf f T w a 0 cap ([] : List α) :=
  ⟨rfl, fun _ h => absurd h (Nat.not_lt_zero _)⟩

theorem size9 (w : World) : (sizeOf (Eaug.prog.elem 22)).run Eaug.prog w = .ok 1 w := by kernel_rfl
theorem size2 (w : World) : (sizeOf (Eaug.prog.elem 23)).run Eaug.prog w = .ok 1 w := by kernel_rfl
theorem elem22 : Eaug.prog.underlying 22 = some (.slice (Eaug.prog.elem 22)) := by kernel_rfl
theorem elem23 : Eaug.prog.underlying 23 = some (.slice (Eaug.prog.elem 23)) := by kernel_rfl

/-- A []string and a []int64, as the walks see them. -/
abbrev Strs (w : World) (a : Option Addr) (len cap : Nat) (ss : List ByteArray) : Prop := RowOf Value.string 22 w a len cap ss
abbrev Ints (w : World) (a : Option Addr) (len cap : Nat) (zs : List Int) : Prop := RowOf (Value.int .i64) 23 w a len cap zs

end Go.Proofs.Yoeauw
