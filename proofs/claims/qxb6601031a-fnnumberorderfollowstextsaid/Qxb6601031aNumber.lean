import Derived.Test.Qxb6601031aRows
import Derived.Test.Qxb6601031aPlain
import Derived.WalkKit
import Derived.WalkSpells
namespace Go.Proofs.Qxb6601031a
open Go.RowKit

theorem ret_int {k : IntKind} {a b : Int} (h : a = b) : Ending.returned (.int k a) = .returned (.int k b) := by rw [h]

/-- 'number' on digits whose value fits: that value. -/
theorem number_any (s : ByteArray) (w : World) (hs : s.size ≤ 65536) (hd : Digits s.data.toList) (hv : val s.data.toList ≤ 9223372036854775807) :
    Calls Try.prog 29 #[.string s] w fun e w' => e = .returned (.int .i64 (val s.data.toList)) ∧ w' = w := by
  go_enter Try.func29, Try.ntmps29
  go_wp2
  go_loop [3, 4] (fun n i => ∃ k : Nat, k ≤ s.size ∧ i = .int .i64 k ∧ n = .int .i64 (val (s.data.toList.take k))) (fun _ i => s.size - (intOf i).toNat)
  case atStart => exact ⟨0, Nat.zero_le _, rfl, rfl⟩
  case round =>
    obtain ⟨k, hk, rfl, rfl⟩ := hrel
    by_cases hlt : k < s.size
    · have hdk := digit_at hd k hlt
      have h0 := val_nonneg _ (hd.take k)
      have hle := val_take_le _ hd (k + 1)
      have HS : Hid (val (s.data.toList.take (k + 1)) = val (s.data.toList.take k) * 10 + ((s[k].toNat : Int) - 48)) := val_take_succ s k hlt
      have hb : val (s.data.toList.take k) * 10 + ((s[k].toNat : Int) - 48) ≤ 9223372036854775807 := by have := HS.out; omega
      have hd1 : (48 : Int) ≤ (s[k].toNat : Int) := by omega
      have hd2 : (s[k].toNat : Int) ≤ 57 := by omega
      clear hle hdk hd hv
      go_wp2
      go_round
      case rel => exact ⟨k + 1, by omega, by go_num, by rw [HS.out]⟩
      case measure => simp [intOf]; omega
    · go_wp2
      go_ret
      exact ⟨ret_int (by rw [List.take_of_length_le (by simp; omega)]), rfl⟩

theorem zznumber_any (s : ByteArray) (w : World) (hs : s.size ≤ 65536) (hd : Digits s.data.toList) (hv : val s.data.toList ≤ 9223372036854775807) :
    Calls Try.prog 18 #[.string s] w fun e w' => e = .returned (.int .i64 (val s.data.toList)) ∧ w' = w := by
  go_enter Try.func18, Try.ntmps18
  go_wp2_with (go_at_call 29; refine (number_any s _ hs hd hv).mono ?_; rintro e w' ⟨rfl, rfl⟩)
  go_ret
  exact ⟨rfl, rfl⟩
end Go.Proofs.Qxb6601031a
