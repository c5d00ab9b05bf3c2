/-
  THE WALK OF FnInferModuleNameMatchesModel (3), out of her callees' contracts.
-/
import Derived.Test.YoeauwBytes
import Derived.Test.YoeauwClone
import Derived.Test.YoeauwModel
import Derived.Test.YoeauwMixedWalk
namespace Go.Proofs.Yoeauw
open Go.RowKit

set_option maxHeartbeats 1000000 in
theorem match_main (a0 a1 a2 a3 : Option Addr) (l0 l1 l2 l3 c0 c1 c2 c3 : Nat) (s0 s1 s2 : List ByteArray) (z3 : List Int) (w : World)
    (b0 : l0 ≤ 65536) (b1 : l1 ≤ 65536) (b2 : l2 ≤ 65536) (b3 : l3 ≤ 65536) (n0 : a0 = none → l0 = 0) (n1 : a1 = none → l1 = 0) (n2 : a2 = none → l2 = 0) (n3 : a3 = none → l3 = 0)
    (h0 : Strs w a0 l0 c0 s0) (h1 : Strs w a1 l1 c1 s1) (h2 : Strs w a2 l2 c2 s2) (h3 : Ints w a3 l3 c3 z3) (m0 : ∀ s ∈ s0, s.size ≤ maxLen) (m2 : ∀ s ∈ s2, s.size ≤ maxLen) :
    Calls Eaug.prog 3 #[.slice a0 l0 c0, .slice a1 l1 c1, .slice a2 l2 c2, .slice a3 l3 c3] w fun e w' => e = .returned (.bool true) ∧ Below w.heap.size w w' := by
  go_enter Eaug.func3, Eaug.ntmps3
  go_wp2_with fail
  refine (bytes5 a0 a1 a2 a3 l0 l1 l2 l3 c0 c1 c2 c3 s0 s1 s2 _ h0 h1 h2).mono ?_
  rintro e w' ⟨⟨b, rfl⟩, hw⟩
  have hw := hw.symm
  subst hw
  cases b
  · go_wp2
    go_ret
    exact ⟨rfl, Below.refl _ _⟩
  go_wp2
  · go_ret; exact ⟨rfl, Below.refl _ _⟩
  go_loop [9, 10] (fun n i => ∃ (x : Int) (k : Nat), k ≤ l0 ∧ n = .int .i64 x ∧ i = .int .i64 k) (fun _ i => l0 - (intOf i).toNat)
  case atStart => exact ⟨_, 0, Nat.zero_le _, rfl, rfl⟩
  case round =>
    obtain ⟨x, k, hk, rfl, rfl⟩ := hrel
    by_cases hlt : k < l0
    · obtain ⟨b, o, s, _, hix, hc⟩ := h0.2 k hlt
      clear h0 h1 h2 h3 n0 n1 n2 n3 m0 m2
      go_wp2
      · go_ret; exact ⟨rfl, Below.refl _ _⟩
      · go_round
        case rel => exact ⟨_, k + 1, by omega, rfl, by go_num⟩
        case measure => simp [intOf]; omega
    · go_wp2
      go_loop [9, 11] (fun n i => ∃ (x : Int) (k : Nat), k ≤ l1 ∧ n = .int .i64 x ∧ i = .int .i64 k) (fun _ i => l1 - (intOf i).toNat)
      case atStart => exact ⟨_, 0, Nat.zero_le _, rfl, rfl⟩
      case round =>
        obtain ⟨x1, k1, hk1, rfl, rfl⟩ := hrel
        by_cases hlt1 : k1 < l1
        · obtain ⟨b, o, s, _, hix, hc⟩ := h1.2 k1 hlt1
          clear h0 h1 h2 h3 n0 n1 n2 n3 m0 m2
          go_wp2
          · go_ret; exact ⟨rfl, Below.refl _ _⟩
          · go_round
            case rel => exact ⟨_, k1 + 1, by omega, rfl, by go_num⟩
            case measure => simp [intOf]; omega
        · go_wp2
          go_loop [9, 12] (fun n i => ∃ (x : Int) (k : Nat), k ≤ l2 ∧ n = .int .i64 x ∧ i = .int .i64 k) (fun _ i => l2 - (intOf i).toNat)
          case atStart => exact ⟨_, 0, Nat.zero_le _, rfl, rfl⟩
          case round =>
            obtain ⟨x2, k2, hk2, rfl, rfl⟩ := hrel
            by_cases hlt2 : k2 < l2
            · obtain ⟨b, o, s, _, hix, hc⟩ := h2.2 k2 hlt2
              clear h0 h1 h2 h3 n0 n1 n2 n3 m0 m2
              go_wp2
              · go_ret; exact ⟨rfl, Below.refl _ _⟩
              · go_round
                case rel => exact ⟨_, k2 + 1, by omega, rfl, by go_num⟩
                case measure => simp [intOf]; omega
            · by_cases b01 : l1 < l0
              · clear h0 h1 h2 h3 n0 n1 n2 n3 m0 m2
                go_wp2
                go_ret; exact ⟨rfl, Below.refl _ _⟩
              by_cases b23 : l3 < l2
              · clear h0 h1 h2 h3 n0 n1 n2 n3 m0 m2
                go_wp2
                go_ret; exact ⟨rfl, Below.refl _ _⟩
              go_wp2_with fail
              refine (clone6 a0 l0 c0 s0 _ b0 n0 h0).mono ?_
              rintro e w1 ⟨a0', c0', rfl, r0, q1⟩
              go_wp2_with fail
              refine (clone6 a1 l1 c1 s1 _ b1 n1 (h1.later q1)).mono ?_
              rintro e w2 ⟨a1', c1', rfl, r1, q2⟩
              go_wp2_with fail
              refine (clone6 a2 l2 c2 s2 _ b2 n2 ((h2.later q1).later q2)).mono ?_
              rintro e w3 ⟨a2', c2', rfl, r2, q3⟩
              go_wp2_with fail
              refine (clone7 a3 l3 c3 z3 _ b3 n3 (((h3.later q1).later q2).later q3)).mono ?_
              rintro e w4 ⟨a3', c3', rfl, r3, q4⟩
              have R0 := ((r0.later q2).later q3).later q4
              have R1 := (r1.later q3).later q4
              have R2 := r2.later q4
              have Q := ((q1.trans (q2.mono q1.size)).trans (q3.mono (Nat.le_trans q1.size q2.size))).trans (q4.mono (Nat.le_trans q1.size (Nat.le_trans q2.size q3.size)))
              clear h0 h1 h2 h3 n0 n1 n2 n3 r0 r1 r2 q1 q2 q3 q4
              go_wp2_with fail
              refine (mixed9 a0' a1' a2' a3' l0 l1 l2 l3 c0' c1' c2' c3' s0 s1 s2 z3 _ b0 b2 (by omega) (by omega) R0 R1 R2 r3 m0 m2).mono ?_
              rintro e w5 ⟨mb, B, rfl, hm, hn, q5⟩
              go_wp2_with fail
              refine (zzinfer_named mb B _ _ hm hn).mono ?_
              rintro e w6 ⟨rfl, hw6⟩
              have hw6 := hw6.symm
              subst hw6
              go_wp2_with fail
              refine (model10 a0' a1' a2' l0 l1 l2 c0' c1' c2' s0 s1 s2 _ b0 b2 (by omega) (R0.later q5) (R1.later q5) (R2.later q5)).mono ?_
              rintro e w7 ⟨rfl, hw7⟩
              have hw7 := hw7.symm
              subst hw7
              have Q5 := Q.trans (q5.mono Q.size)
              clear R0 R1 R2 r3 q5 hm hn m0 m2 Q
              go_wp2
              go_ret
              exact ⟨by simp, Q5⟩

end Go.Proofs.Yoeauw
