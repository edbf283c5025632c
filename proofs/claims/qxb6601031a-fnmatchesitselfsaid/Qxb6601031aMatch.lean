import Derived.Test.Qxb6601031aRows
import Derived.WalkKit
import Derived.WalkSpells
namespace Go.Proofs.Qxb6601031a
open Go.RowKit

/-- 'matches(s, s)': true. -/
theorem matches_self (s : ByteArray) (w : World) (hs : s.size ≤ 65536) :
    Calls Try.prog 28 #[.string s, .string s] w fun e w' => e = .returned (.bool true) ∧ w' = w := by
  go_enter Try.func28, Try.ntmps28
  go_wp2
  go_loop [5, 6] (fun i c => ∃ k : Nat, k ≤ s.size ∧ i = .int .i64 k) (fun i _ => s.size - (intOf i).toNat)
  case atStart => exact ⟨0, Nat.zero_le _, rfl⟩
  case round =>
    obtain ⟨k, hk, rfl⟩ := hrel
    by_cases hlt : k < s.size
    · by_cases h48 : (s[k].toNat : Int) = 48
      · have l48 : (48 : Int) ≤ (s[k].toNat : Int) := by omega
        have u48 : (s[k].toNat : Int) ≤ 48 := by omega
        clear h48
        go_wp2
        go_round
        case rel => exact ⟨k + 1, by omega, by go_num⟩
        case measure => simp [intOf]; omega
      by_cases h84 : (s[k].toNat : Int) = 84
      · have l84 : (84 : Int) ≤ (s[k].toNat : Int) := by omega
        have u84 : (s[k].toNat : Int) ≤ 84 := by omega
        clear h84
        go_wp2
        go_round
        case rel => exact ⟨k + 1, by omega, by go_num⟩
        case measure => simp [intOf]; omega
      by_cases h43 : (s[k].toNat : Int) = 43
      · have l43 : (43 : Int) ≤ (s[k].toNat : Int) := by omega
        have u43 : (s[k].toNat : Int) ≤ 43 := by omega
        clear h43
        go_wp2
        go_round
        case rel => exact ⟨k + 1, by omega, by go_num⟩
        case measure => simp [intOf]; omega
      have f48 : ((s[k].toNat : Int) == 48) = false := by simpa using h48
      have f84 : ((s[k].toNat : Int) == 84) = false := by simpa using h84
      have f43 : ((s[k].toNat : Int) == 43) = false := by simpa using h43
      clear h48 h84 h43
      go_wp2
      go_round
      case rel => exact ⟨k + 1, by omega, by go_num⟩
      case measure => simp [intOf]; omega
    · go_wp2
      go_ret
      exact ⟨rfl, rfl⟩
end Go.Proofs.Qxb6601031a
