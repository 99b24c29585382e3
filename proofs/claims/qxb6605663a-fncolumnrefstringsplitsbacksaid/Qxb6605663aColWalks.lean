import Derived.Test.Qxb6605663aRows
import Derived.Test.Qxb6605663aColParts
import Derived.WalkKit
import Derived.ProofKit
import Derived.OpenShut
import Derived.ShutString
import Derived.Handy
import Derived.Outline
import Derived.WalkSpells
import Derived.Deep.QuietTactic
import Derived.BigQuiet
namespace Go.Proofs.Qxb6605663a.fnColumnRefStringSplitsBack
open Go.ChangeShapes Go.WideShapes Go.ChangeAt Go.RowKit
set_option linter.unusedVariables false

theorem byte_eq {b : UInt8} (h : b = 46) : ((b.toNat : Int) == 46) = true := by subst h; rfl
theorem byte_ne {b : UInt8} (h : b ≠ 46) : ((b.toNat : Int) == 46) = false := by
  rw [beq_eq_false_iff_ne]
  intro e
  apply h
  apply UInt8.toNat_inj.1
  show b.toNat = 46
  omega

set_option maxHeartbeats 400000 in
theorem hasDot_no (s : ByteArray) (w : World) (hs : s.size ≤ 65536) (hn : NoDot s) :
    Calls Try.prog 6 #[.string s] w fun e w' => e = .returned (.bool false) ∧ w = w' := by
  go_enter Try.func6, Try.ntmps6
  go_wp2
  go_loop [3] (fun i => ∃ k : Nat, k ≤ s.size ∧ i = .int .i64 k) (fun i => s.size - (intOf i).toNat)
  case atStart => exact ⟨0, Nat.zero_le _, rfl⟩
  case round =>
    obtain ⟨k, hk, rfl⟩ := hrel
    by_cases hlt : k < s.size
    · have hb := byte_ne (hn k hlt)
      go_wp2
      go_round
      case rel => exact ⟨k + 1, by omega, by go_num⟩
      case measure => simp [intOf]; omega
    · go_wp2
      go_ret
      exact ⟨rfl, rfl⟩

set_option maxHeartbeats 400000 in
theorem hasDot_yes (s : ByteArray) (w : World) (hs : s.size ≤ 65536) (hn : ¬ NoDot s) :
    Calls Try.prog 6 #[.string s] w fun e w' => e = .returned (.bool true) ∧ w = w' := by
  go_enter Try.func6, Try.ntmps6
  go_wp2
  go_loop [3] (fun i => ∃ k : Nat, k ≤ s.size ∧ i = .int .i64 k ∧ ∀ j (hj : j < s.size), j < k → s[j] ≠ 46) (fun i => s.size - (intOf i).toNat)
  case atStart => exact ⟨0, Nat.zero_le _, rfl, fun j hj h => absurd h (by omega)⟩
  case round =>
    obtain ⟨k, hk, rfl, hrest⟩ := hrel
    have HR : Hid (∀ j (hj : j < s.size), j < k → s[j] ≠ 46) := hrest
    clear hrest
    by_cases hlt : k < s.size
    · by_cases he : s[k] = 46
      · have hb := byte_eq he
        clear he
        go_wp2
        go_ret
        exact ⟨rfl, rfl⟩
      · have hb := byte_ne he
        have HE : Hid (s[k] ≠ 46) := he
        clear he
        go_wp2
        go_round
        case rel =>
          refine ⟨k + 1, by omega, by go_num, fun j hj h => ?_⟩
          by_cases e : j = k
          · subst e; exact HE.out
          · exact HR.out j hj (by omega)
        case measure => simp [intOf]; omega
    · exact absurd (fun j hj => HR.out j hj (by omega)) hn

end Go.Proofs.Qxb6605663a.fnColumnRefStringSplitsBack
