/-
  THE WALK OF ZZnewMixedImmutableMap (9): the map that she makes names 'want'.
-/
import Derived.Test.YoeauwMixed
import Derived.RegionTactic
namespace Go.Proofs.Yoeauw
open Go.RowKit

theorem cell_lt {w : World} {b o : Nat} {v : Value} (h : w.cell? ⟨b, o, none⟩ = some v) : b < w.heap.size := by
  apply Classical.byContradiction
  intro hn
  have : w.heap[b]? = none := by simp; omega
  simp [World.cell?, this] at h

set_option maxHeartbeats 1000000 in
theorem mixed9 (a0 a1 a2 a3 : Option Addr) (l0 l1 l2 l3 c0 c1 c2 c3 : Nat) (s0 s1 s2 : List ByteArray) (z3 : List Int) (w : World) (b0 : l0 ≤ 65536) (b2 : l2 ≤ 65536) (b01 : l0 ≤ l1) (b23 : l2 ≤ l3)
    (h0 : Strs w a0 l0 c0 s0) (h1 : Strs w a1 l1 c1 s1) (h2 : Strs w a2 l2 c2 s2) (h3 : Ints w a3 l3 c3 z3) (m0 : ∀ s ∈ s0, s.size ≤ maxLen) (m2 : ∀ s ∈ s2, s.size ≤ maxLen) :
    Calls Eaug.prog 9 #[.slice a0 l0 c0, .slice a1 l1 c1, .slice a2 l2 c2, .slice a3 l3 c3] w fun e w' => ∃ mb B, e = .returned (.pointer (some ⟨mb, 0, none⟩)) ∧ w'.cell? ⟨mb, 0, none⟩ = some (.map (some B)) ∧ Named B w' (want s0 s1 s2 l0 l2) ∧ Below w.heap.size w w' := by
  have hmm := @run_makeMap Eaug.prog
  have hst := Rel1.start w s0 s1
  go_enter Eaug.func9, Eaug.ntmps9
  go_wp2
  clear hmm
  go_loopw [10] (fun i wr => ∃ k : Nat, k ≤ l0 ∧ i = .int .i64 k ∧ Rel1 w s0 s1 k wr) (fun i _ => l0 - (intOf i).toNat)
  case atStart => exact ⟨0, Nat.zero_le _, rfl, hst⟩
  case round =>
    obtain ⟨k, hk, rfl, hrel⟩ := hrel
    clear hst
    by_cases hlt : k < l0
    · obtain ⟨b, o, s, hx, hix, hc⟩ := h0.2 k hlt
      obtain ⟨bb, oo, t, hx1, hix1, hc1⟩ := h1.2 k (by omega)
      have hbel : Below w.heap.size w wr := by obtain ⟨_, _, _, hb⟩ := hrel; exact hb
      have hcr := cell_later hbel hc
      have hcr1 := cell_later hbel hc1
      have hbs := cell_lt hcr
      have hbs1 := cell_lt hcr1
      obtain ⟨w2, hrun, hS⟩ := Rel1.step hrel (by omega) hx hx1 (m0 s (List.mem_of_getElem? hx))
      clear hbel hrel hc hc1 hx hx1 h0 h1 h2 h3 m0 m2
      go_wp2
      go_region
      go_wp2
      go_roundw
      case rel => exact ⟨k + 1, by omega, by go_num, hS⟩
      case measure => simp [intOf]; omega
    · have e : k = l0 := by omega
      subst e
      have hst2 := Rel2.start s2 hrel
      clear h0 h1 m0 hlt hrel
      go_wp2
      obtain ⟨wo, hwo⟩ : ∃ wo : World, wo = wr := ⟨_, rfl⟩
      rw [← hwo] at hst2 ⊢
      clear hwo
      go_loopw [11] (fun i wr => ∃ j : Nat, j ≤ l2 ∧ i = .int .i64 j ∧ Rel2 w s0 s1 s2 k j wr) (fun i _ => l2 - (intOf i).toNat)
      case atStart => exact ⟨0, Nat.zero_le _, rfl, hst2⟩
      case round =>
        obtain ⟨j, hj, rfl, hrel⟩ := hrel
        clear hst2
        by_cases hlt : j < l2
        · obtain ⟨b, o, s, hx, hix, hc⟩ := h2.2 j hlt
          obtain ⟨bb, oo, z, hx1, hix1, hc1⟩ := h3.2 j (by omega)
          have hbel : Below w.heap.size w wr := by obtain ⟨_, _, _, hb⟩ := hrel; exact hb
          have hcr := cell_later hbel hc
          have hcr1 := cell_later hbel hc1
          have hbs := cell_lt hcr
          have hbs1 := cell_lt hcr1
          obtain ⟨w2, hrun, hS⟩ := Rel2.step (z := z) hrel b0 (by omega) hx (m2 s (List.mem_of_getElem? hx))
          clear hbel hrel hc hc1 hx hx1 h2 h3 m2
          go_wp2
          go_region
          go_wp2
          go_roundw
          case rel => exact ⟨j + 1, by omega, by go_num, hS⟩
          case measure => simp [intOf]; omega
        · have e : j = l2 := by omega
          subst e
          have hend := hrel.done
          clear h2 h3 m2 hlt hrel
          go_wp2
          go_ret
          exact ⟨_, _, rfl, hend⟩

end Go.Proofs.Yoeauw
