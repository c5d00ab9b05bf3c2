/-
  THE WALK OF zzBytes_FnInferModuleNameMatchesModel (5): she returns some bool and turns nothing. (What the bool says is not needed: the law's own text holds whichever comes.)
-/
import Derived.Test.YoeauwBase
namespace Go.Proofs.Yoeauw
open Go.RowKit

def SomeBool (e : Ending) : Prop := ∃ b, e = .returned (.bool b)
theorem SomeBool.mk (b : Bool) : SomeBool (.returned (.bool b)) := ⟨b, rfl⟩

set_option maxHeartbeats 1000000 in
theorem bytes5 (a0 a1 a2 a3 : Option Addr) (l0 l1 l2 l3 c0 c1 c2 c3 : Nat) (s0 s1 s2 : List ByteArray) (w : World)
    (h0 : Strs w a0 l0 c0 s0) (h1 : Strs w a1 l1 c1 s1) (h2 : Strs w a2 l2 c2 s2) :
    Calls Eaug.prog 5 #[.slice a0 l0 c0, .slice a1 l1 c1, .slice a2 l2 c2, .slice a3 l3 c3] w fun e w' => SomeBool e ∧ w' = w := by
  go_enter Eaug.func5, Eaug.ntmps5
  go_wp2
  · go_ret; exact ⟨SomeBool.mk _, rfl⟩
  go_loop [9, 10] (fun n i => ∃ (x : Int) (k : Nat), k ≤ l0 ∧ n = .int .i64 x ∧ i = .int .i64 k) (fun _ i => l0 - (intOf i).toNat)
  case atStart => exact ⟨_, 0, Nat.zero_le _, rfl, rfl⟩
  case round =>
    obtain ⟨x, k, hk, rfl, rfl⟩ := hrel
    by_cases hlt : k < l0
    · obtain ⟨b, o, s, _, hix, hc⟩ := h0.2 k hlt
      clear h0 h1 h2
      go_wp2
      · go_ret; exact ⟨SomeBool.mk _, rfl⟩
      · go_ret; exact ⟨SomeBool.mk _, rfl⟩
      · go_round
        case rel => exact ⟨_, k + 1, by omega, rfl, by go_num⟩
        case measure => simp [intOf]; omega
    · clear h0
      go_wp2
      · go_ret; exact ⟨SomeBool.mk _, rfl⟩
      · go_ret; exact ⟨SomeBool.mk _, rfl⟩
      go_loop [9, 11] (fun n i => ∃ (x : Int) (k : Nat), k ≤ l1 ∧ n = .int .i64 x ∧ i = .int .i64 k) (fun _ i => l1 - (intOf i).toNat)
      case atStart => exact ⟨_, 0, Nat.zero_le _, rfl, rfl⟩
      case round =>
        obtain ⟨x1, k1, hk1, rfl, rfl⟩ := hrel
        by_cases hlt1 : k1 < l1
        · obtain ⟨b, o, s, _, hix, hc⟩ := h1.2 k1 hlt1
          clear h1 h2
          go_wp2
          · go_ret; exact ⟨SomeBool.mk _, rfl⟩
          · go_ret; exact ⟨SomeBool.mk _, rfl⟩
          · go_round
            case rel => exact ⟨_, k1 + 1, by omega, rfl, by go_num⟩
            case measure => simp [intOf]; omega
        · clear h1
          go_wp2
          · go_ret; exact ⟨SomeBool.mk _, rfl⟩
          · go_ret; exact ⟨SomeBool.mk _, rfl⟩
          go_loop [9, 12] (fun n i => ∃ (x : Int) (k : Nat), k ≤ l2 ∧ n = .int .i64 x ∧ i = .int .i64 k) (fun _ i => l2 - (intOf i).toNat)
          case atStart => exact ⟨_, 0, Nat.zero_le _, rfl, rfl⟩
          case round =>
            obtain ⟨x2, k2, hk2, rfl, rfl⟩ := hrel
            by_cases hlt2 : k2 < l2
            · obtain ⟨b, o, s, _, hix, hc⟩ := h2.2 k2 hlt2
              clear h2
              go_wp2
              · go_ret; exact ⟨SomeBool.mk _, rfl⟩
              · go_ret; exact ⟨SomeBool.mk _, rfl⟩
              · go_round
                case rel => exact ⟨_, k2 + 1, by omega, rfl, by go_num⟩
                case measure => simp [intOf]; omega
            · clear h2
              go_wp2
              all_goals (go_ret; exact ⟨SomeBool.mk _, rfl⟩)

end Go.Proofs.Yoeauw
