/-
  THE WALK OF zzModelModuleName_b3 (10): she computes 'want'.
-/
import Derived.Test.YoeauwBase
import Derived.Test.YoeauwPlain
namespace Go.Proofs.Yoeauw
open Go.RowKit

theorem ret_string {a b : ByteArray} (h : a = b) : Ending.returned (.string a) = .returned (.string b) := by rw [h]

set_option maxHeartbeats 1000000 in
theorem model10 (a0 a1 a2 : Option Addr) (l0 l1 l2 c0 c1 c2 : Nat) (s0 s1 s2 : List ByteArray) (w : World) (b0 : l0 ≤ 65536) (b2 : l2 ≤ 65536) (b01 : l0 ≤ l1)
    (h0 : Strs w a0 l0 c0 s0) (h1 : Strs w a1 l1 c1 s1) (h2 : Strs w a2 l2 c2 s2) :
    Calls Eaug.prog 10 #[.slice a0 l0 c0, .slice a1 l1 c1, .slice a2 l2 c2] w fun e w' => e = .returned (.string (want s0 s1 s2 l0 l2)) ∧ w' = w := by
  go_enter Eaug.func10, Eaug.ntmps10
  go_wp2
  go_loop [7] (fun i => ∃ (k : Nat), k ≤ l2 ∧ i = .int .i64 k ∧ Hid (hitTo s2 k = false)) (fun i => l2 - (intOf i).toNat)
  case atStart => exact ⟨0, Nat.zero_le _, rfl, rfl⟩
  case round =>
    obtain ⟨k, hk, rfl, hm⟩ := hrel
    by_cases hlt : k < l2
    · obtain ⟨b, o, s, hx, hix, hc⟩ := h2.2 k hlt
      have HX : Hid (s2[k]? = some s) := hx
      clear hx h0 h1 h2
      go_wp2
      · have ht : isKey s = true := by assumption
        go_ret
        exact ⟨ret_string (want_hit (hitTo_mono (k := k + 1) (by omega) (hitTo_hit HX.out ht))).symm, rfl⟩
      · have ht : isKey s = false := by assumption
        go_round
        case rel => exact ⟨k + 1, by omega, by go_num, (hitTo_miss HX.out ht).trans hm.out⟩
        case measure => simp [intOf]; omega
    · have e2 : k = l2 := by omega
      subst e2
      have HW : Hid (want s0 s1 s2 l0 k = wantTo s0 s1 l0) := want_miss hm.out
      clear h2 hlt hm
      go_wp2
      go_loop [8, 9] (fun v i => ∃ (k : Nat), k ≤ l0 ∧ v = .string (wantTo s0 s1 k) ∧ i = .int .i64 k) (fun _ i => l0 - (intOf i).toNat)
      case atStart => exact ⟨0, Nat.zero_le _, rfl, rfl⟩
      case round =>
        obtain ⟨j, hj, rfl, rfl⟩ := hrel
        by_cases hlt : j < l0
        · obtain ⟨b, o, s, hx, hix, hc⟩ := h0.2 j hlt
          obtain ⟨b1, o1, t, hx1, hix1, hc1⟩ := h1.2 j (by omega)
          have HX : Hid (s0[j]? = some s) := hx
          have HX1 : Hid (s1[j]? = some t) := hx1
          clear hx hx1 h0 h1
          go_wp2
          · have ht : isKey s = true := by assumption
            go_round
            case rel => exact ⟨j + 1, by omega, by rw [wantTo_hit HX.out HX1.out ht], by go_num⟩
            case measure => simp [intOf]; omega
          · have ht : isKey s = false := by assumption
            go_round
            case rel => exact ⟨j + 1, by omega, by rw [wantTo_miss HX.out ht], by go_num⟩
            case measure => simp [intOf]; omega
        · have e0 : j = l0 := by omega
          subst e0
          clear h0 h1
          go_wp2
          go_ret
          exact ⟨ret_string HW.out.symm, rfl⟩

end Go.Proofs.Yoeauw
