/-
  THE WALKS OF zzCloneStrs_b3 (6) AND zzCloneI64s_b3 (7): a new row that reads as the old one; nothing that was there turns.
-/
import Derived.Test.YoeauwBase
namespace Go.Proofs.Yoeauw
open Go.RowKit

/-- Of the new row at block B, of len cells, the first k hold what xs says; all can be written. -/
def Filled {α : Type} (f : α → Value) (w wr : World) (B len : Nat) (xs : List α) (k : Nat) : Prop :=
  (∀ j, j < len → (∃ u, wr.cell? ⟨B, j, none⟩ = some u) ∧ wr.frozen? ⟨B, j, none⟩ = false) ∧ (∀ j x, j < k → xs[j]? = some x → wr.cell? ⟨B, j, none⟩ = some (f x)) ∧ Below B w wr

theorem Filled.made {α : Type} {f : α → Value} {w w1 : World} {e : TypeId} {len : Nat} {xs : List α} {ys : List Value}
    (ho : w1.ownsRow w.heap.size e 1 (.slice (some ⟨w.heap.size, 0, none⟩) len len) len ys) (hg : w.grownBy w1 none) : Filled f w w1 w.heap.size len xs 0 := by
  refine ⟨fun j hj => ?_, fun j x hj => absurd hj (Nat.not_lt_zero _), (Below.refl _ _).grown hg (Nat.le_refl _) (fun k hk => by cases hk)⟩
  obtain ⟨_, ⟨h, _⟩ | ⟨g, cap, cur, hv, _, hb, _, _, hs, _⟩⟩ := ho
  · cases h
  · simp only [Value.slice.injEq, Option.some.injEq, Addr.mk.injEq] at hv
    obtain ⟨⟨rfl, _, _⟩, _, rfl⟩ := hv
    refine ⟨?_, by simp [World.frozen?, hb]⟩
    refine ⟨cur[j]'(by omega), ?_⟩
    simp [World.cell?, hb, show j < cur.size by omega]

theorem Filled.step {α : Type} {f : α → Value} {w wr : World} {len : Nat} {xs : List α} {k : Nat} {x : α} (h : Filled f w wr w.heap.size len xs k) (hk : k < len) (hx : xs[k]? = some x) :
    Filled f w (wr.setCell ⟨w.heap.size, k, none⟩ (f x)) w.heap.size len xs (k + 1) := by
  obtain ⟨h1, h2, h3⟩ := h
  have same : ∀ u, wr.cell? ⟨w.heap.size, k, none⟩ = some u → (wr.setCell ⟨w.heap.size, k, none⟩ (f x)).cell? ⟨w.heap.size, k, none⟩ = some (f x) := fun u hu => World.cell?_setCell_same _ _ _ hu
  have other : ∀ j, j ≠ k → (wr.setCell ⟨w.heap.size, k, none⟩ (f x)).cell? ⟨w.heap.size, j, none⟩ = wr.cell? ⟨w.heap.size, j, none⟩ := fun j hj => World.cell?_setCell_other _ _ _ _ (fun e => hj (Addr.mk.inj e).2.1.symm)
  refine ⟨fun j hj => ⟨?_, by rw [World.frozen?_setCell]; exact (h1 j hj).2⟩, fun j y hj hy => ?_, h3.setCell (Nat.le_refl _) _⟩
  · by_cases e : j = k
    · subst e
      obtain ⟨u, hu⟩ := (h1 j hj).1
      exact ⟨_, same u hu⟩
    · rw [other j e]; exact (h1 j hj).1
  · by_cases e : j = k
    · subst e
      obtain ⟨u, hu⟩ := (h1 j hk).1
      rw [hx] at hy
      cases hy
      exact same u hu
    · rw [other j e]; exact h2 j y (by omega) hy

theorem Filled.full {α : Type} {f : α → Value} {T : TypeId} {w wr : World} {B len cap : Nat} {xs : List α} (hT : Eaug.prog.underlying T = some (.slice (Eaug.prog.elem T))) (hs : ∀ w', (sizeOf (Eaug.prog.elem T)).run Eaug.prog w' = .ok 1 w')
    (h : Filled f w wr B len xs len) (hl : xs.length = len) : RowOf f T wr (some ⟨B, 0, none⟩) len cap xs := by
  refine RowOf.mk hT hs hl fun k x hx => ?_
  have hk : k < len := by
    rw [← hl]
    exact (List.getElem?_eq_some_iff.1 hx).1
  have e : (Addr.mk B 0 none).add k = ⟨B, k, none⟩ := by unfold Addr.add; split <;> simp_all
  rw [e]
  exact h.2.1 k x hk hx

theorem info9 : (Eaug.prog.info? 9).map (fun i => (i.zero, i.size, i.bytes)) = some (some (.string ⟨#[]⟩), 1, 16) := by kernel_rfl
theorem info2 : (Eaug.prog.info? 2).map (fun i => (i.zero, i.size, i.bytes)) = some (some (.int .i64 0), 1, 8) := by kernel_rfl

theorem clone6_nil (w : World) (cap : Nat) :
    Calls Eaug.prog 6 #[.slice none 0 cap] w fun e w' => e = .returned (.slice none 0 0) ∧ w' = w := by
  have hq : ∀ W, (binOp .eql 22 (.slice none 0 cap) (.slice none 0 0)).run Eaug.prog W = .ok (.bool true) W := fun W => Lib.run_eql_slice_nil W 22 9 none 0 cap 0 0 Eaug.underlying22
  go_enter Eaug.func6, Eaug.ntmps6
  go_wp2
  go_ret
  exact ⟨rfl, rfl⟩

set_option maxHeartbeats 1000000 in
theorem clone6_some (a : Option Addr) (len cap : Nat) (ss : List ByteArray) (w : World) (hb : len ≤ 65536) (ha : a.isNone = false) (h : Strs w a len cap ss) :
    Calls Eaug.prog 6 #[.slice a len cap] w fun e w' => e = .returned (.slice (some ⟨w.heap.size, 0, none⟩) len len) ∧ Filled Value.string w w' w.heap.size len ss len := by
  have hq : ∀ W, (binOp .eql 22 (.slice a len cap) (.slice none 0 0)).run Eaug.prog W = .ok (.bool false) W := fun W => by rw [Lib.run_eql_slice_nil W 22 9 a len cap 0 0 Eaug.underlying22, ha]
  obtain ⟨i0, hi, hz0, hz1, hz2⟩ := info_parts info9
  clear ha
  go_enter Eaug.func6, Eaug.ntmps6
  go_wp2_with (at_make; refine wpList_make_full _ rfl _ _ 22 rfl w.heap.size 9 i0 (.string ⟨#[]⟩) 1 Eaug.underlying22 hi hz0 hz1 .i64 .i64 _ _ len rfl rfl rfl rfl (by rw [hz2]; omega) (by unfold maxLen; omega) (Nat.le_refl _) ?_; intro w1 hown1 hgrow1)
  have hF0 := Filled.made (f := Value.string) (xs := ss) hown1 hgrow1
  clear hown1 hgrow1 hq hi hz0 hz1 hz2
  go_loopw [4] (fun i wr => ∃ k : Nat, k ≤ len ∧ i = .int .i64 k ∧ Filled Value.string w wr w.heap.size len ss k) (fun i _ => len - (intOf i).toNat)
  case atStart => exact ⟨0, Nat.zero_le _, rfl, hF0⟩
  case round =>
    obtain ⟨k, hk, rfl, hF⟩ := hrel
    clear hF0
    by_cases hlt : k < len
    · obtain ⟨b, o, s, hx, hix, hc⟩ := h.2 k hlt
      have hcr := cell_later hF.2.2 hc
      obtain ⟨⟨u, hu⟩, hfr⟩ := hF.1 k hlt
      have hS := Filled.step hF hlt hx
      clear hF hc hx h
      go_wp2
      go_roundw
      case rel => exact ⟨k + 1, by omega, by go_num, hS⟩
      case measure => simp [intOf]; omega
    · have e : k = len := by omega
      subst e
      clear h
      go_wp2
      go_ret
      exact ⟨rfl, hF⟩

theorem clone7_nil (w : World) (cap : Nat) :
    Calls Eaug.prog 7 #[.slice none 0 cap] w fun e w' => e = .returned (.slice none 0 0) ∧ w' = w := by
  have hq : ∀ W, (binOp .eql 23 (.slice none 0 cap) (.slice none 0 0)).run Eaug.prog W = .ok (.bool true) W := fun W => Lib.run_eql_slice_nil W 23 2 none 0 cap 0 0 Eaug.underlying23
  go_enter Eaug.func7, Eaug.ntmps7
  go_wp2
  go_ret
  exact ⟨rfl, rfl⟩

set_option maxHeartbeats 1000000 in
theorem clone7_some (a : Option Addr) (len cap : Nat) (ss : List Int) (w : World) (hb : len ≤ 65536) (ha : a.isNone = false) (h : Ints w a len cap ss) :
    Calls Eaug.prog 7 #[.slice a len cap] w fun e w' => e = .returned (.slice (some ⟨w.heap.size, 0, none⟩) len len) ∧ Filled (Value.int .i64) w w' w.heap.size len ss len := by
  have hq : ∀ W, (binOp .eql 23 (.slice a len cap) (.slice none 0 0)).run Eaug.prog W = .ok (.bool false) W := fun W => by rw [Lib.run_eql_slice_nil W 23 2 a len cap 0 0 Eaug.underlying23, ha]
  obtain ⟨i0, hi, hz0, hz1, hz2⟩ := info_parts info2
  clear ha
  go_enter Eaug.func7, Eaug.ntmps7
  go_wp2_with (at_make; refine wpList_make_full _ rfl _ _ 23 rfl w.heap.size 2 i0 (.int .i64 0) 1 Eaug.underlying23 hi hz0 hz1 .i64 .i64 _ _ len rfl rfl rfl rfl (by rw [hz2]; omega) (by unfold maxLen; omega) (Nat.le_refl _) ?_; intro w1 hown1 hgrow1)
  have hF0 := Filled.made (f := (Value.int .i64)) (xs := ss) hown1 hgrow1
  clear hown1 hgrow1 hq hi hz0 hz1 hz2
  go_loopw [4] (fun i wr => ∃ k : Nat, k ≤ len ∧ i = .int .i64 k ∧ Filled (Value.int .i64) w wr w.heap.size len ss k) (fun i _ => len - (intOf i).toNat)
  case atStart => exact ⟨0, Nat.zero_le _, rfl, hF0⟩
  case round =>
    obtain ⟨k, hk, rfl, hF⟩ := hrel
    clear hF0
    by_cases hlt : k < len
    · obtain ⟨b, o, s, hx, hix, hc⟩ := h.2 k hlt
      have hcr := cell_later hF.2.2 hc
      obtain ⟨⟨u, hu⟩, hfr⟩ := hF.1 k hlt
      have hS := Filled.step hF hlt hx
      clear hF hc hx h
      go_wp2
      go_roundw
      case rel => exact ⟨k + 1, by omega, by go_num, hS⟩
      case measure => simp [intOf]; omega
    · have e : k = len := by omega
      subst e
      clear h
      go_wp2
      go_ret
      exact ⟨rfl, hF⟩


/-- zzCloneStrs, nil or not: a slice of the same texts, in new memory. -/
theorem clone6 (a : Option Addr) (len cap : Nat) (ss : List ByteArray) (w : World) (hb : len ≤ 65536) (hn : a = none → len = 0) (h : Strs w a len cap ss) :
    Calls Eaug.prog 6 #[.slice a len cap] w fun e w' => ∃ a' cap', e = .returned (.slice a' len cap') ∧ Strs w' a' len cap' ss ∧ Below w.heap.size w w' := by
  cases ha : a.isNone
  · refine (clone6_some a len cap ss w hb ha h).mono fun e w' ⟨he, hF⟩ => ?_
    exact ⟨_, _, he, Filled.full elem22 size9 hF h.1, hF.2.2⟩
  · have e0 : a = none := by simpa using ha
    have e1 := hn e0
    subst e0
    subst e1
    refine (clone6_nil w cap).mono fun e w' ⟨he, hw⟩ => ?_
    subst hw
    have : ss = [] := List.eq_nil_of_length_eq_zero h.1
    subst this
    exact ⟨none, 0, he, RowOf.empty _ _ _ _ _, Below.refl _ _⟩


/-- zzCloneI64s, nil or not: a slice of the same numbers, in new memory. -/
theorem clone7 (a : Option Addr) (len cap : Nat) (ss : List Int) (w : World) (hb : len ≤ 65536) (hn : a = none → len = 0) (h : Ints w a len cap ss) :
    Calls Eaug.prog 7 #[.slice a len cap] w fun e w' => ∃ a' cap', e = .returned (.slice a' len cap') ∧ Ints w' a' len cap' ss ∧ Below w.heap.size w w' := by
  cases ha : a.isNone
  · refine (clone7_some a len cap ss w hb ha h).mono fun e w' ⟨he, hF⟩ => ?_
    exact ⟨_, _, he, Filled.full elem23 size2 hF h.1, hF.2.2⟩
  · have e0 : a = none := by simpa using ha
    have e1 := hn e0
    subst e0
    subst e1
    refine (clone7_nil w cap).mono fun e w' ⟨he, hw⟩ => ?_
    subst hw
    have : ss = [] := List.eq_nil_of_length_eq_zero h.1
    subst this
    exact ⟨none, 0, he, RowOf.empty _ _ _ _ _, Below.refl _ _⟩

end Go.Proofs.Yoeauw
