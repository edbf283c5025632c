import Derived.Test.Qxb6601031aDigits
import Derived.Test.Qxb6601031aCmp
import Derived.Deep.RegionWith
namespace Go.Proofs.Qxb6601031a
open Go.RowKit
open Go.Lib (compareBytes)

/-- The sign of a difference. -/
def sgn (a b : Int) : Int := if a < b then -1 else if b < a then 1 else 0

theorem sgn_lt {a b : Int} (h : a < b) : sgn a b = -1 := by rw [sgn, if_pos h]
theorem sgn_gt {a b : Int} (h : b < a) : sgn a b = 1 := by rw [sgn, if_neg (by omega), if_pos h]
theorem sgn_eq {a b : Int} (h1 : ¬ a < b) (h2 : ¬ b < a) : sgn a b = 0 := by rw [sgn, if_neg h1, if_neg h2]

/-- Of two digit strings of one length the text's order is the numbers'. -/
theorem cmp_val : ∀ (a b : List UInt8), a.length = b.length → Digits a → Digits b → compareBytes a b = sgn (val a) (val b)
  | [], [], _, _, _ => rfl
  | [], _ :: _, h, _, _ => by simp at h
  | _ :: _, [], h, _, _ => by simp at h
  | x :: a, y :: b, h, ha, hb => by
    have hl : a.length = b.length := by simpa using h
    have ih := cmp_val a b hl ha.tail hb.tail
    have va := val_bounds a ha.tail
    have vb := val_bounds b hb.tail
    have hp := pow10_pos b.length
    have key : ∀ u v : Int, u < v → u * 10 ^ b.length + 10 ^ b.length ≤ v * 10 ^ b.length := fun u v huv => by
      have := Int.mul_le_mul_of_nonneg_right (show u + 1 ≤ v by omega) (show (0 : Int) ≤ 10 ^ b.length by omega)
      rw [Int.add_mul, Int.one_mul] at this
      exact this
    rw [hl] at va
    rw [compareBytes, val_cons, val_cons, hl]
    by_cases h1 : x < y
    · have hn := UInt8.lt_iff_toNat_lt.1 h1
      have := key ((x.toNat : Int) - 48) ((y.toNat : Int) - 48) (by omega)
      rw [if_pos h1, sgn_lt (by omega)]
    · rw [if_neg h1]
      by_cases h2 : y < x
      · have hn := UInt8.lt_iff_toNat_lt.1 h2
        have := key ((y.toNat : Int) - 48) ((x.toNat : Int) - 48) (by omega)
        rw [if_pos h2, sgn_gt (by omega)]
      · rw [if_neg h2, ih]
        have e : x.toNat = y.toNat := by
          rw [UInt8.lt_iff_toNat_lt] at h1 h2
          omega
        rw [e]
        by_cases c1 : val a < val b
        · rw [sgn_lt c1, sgn_lt (by omega)]
        · by_cases c2 : val b < val a
          · rw [sgn_gt c2, sgn_gt (by omega)]
          · rw [sgn_eq c1 c2, sgn_eq (by omega) (by omega)]

theorem bytes19_any (a b : ByteArray) (w : World) (ha : a.size ≤ 65536) (hb : b.size ≤ 65536) :
    Calls Try.prog 19 #[.string a, .string b] w fun e w' => e = .returned (.bool true) ∧ w' = w := by
  go_enter Try.func19, Try.ntmps19
  go_wp2
  go_ret
  exact ⟨rfl, rfl⟩

set_option maxHeartbeats 800000 in
theorem order_main (a b : ByteArray) (w : World) (ha : a.size ≤ 65536) (hb : b.size ≤ 65536) (hab : (a.size : Int) = (b.size : Int)) :
    Calls Try.prog 6 #[.string a, .string b] w fun e w' => e = .returned (.bool true) ∧ ∃ q, w' = w.drewN q := by
  have h1 : (a.size : Int) ≤ (b.size : Int) := by omega
  have h2 : (b.size : Int) ≤ (a.size : Int) := by omega
  have HL : Hid (a.size = b.size) := by unfold Hid; omega
  clear hab
  go_enter Try.func6, Try.ntmps6
  go_wp2_with (go_at_call 19; refine (bytes19_any a b _ ha hb).mono ?_; rintro e w' ⟨rfl, hw'⟩; subst w')
  refine (allDigits_any a _ ha).mono ?_
  rintro e w' ⟨⟨r, rfl, hr⟩, hw'⟩
  subst w'
  cases r
  · go_wp2
    go_ret
    exact ⟨rfl, 0, rfl⟩
  have HA : Hid (Digits a.data.toList) := hr rfl
  clear hr
  go_wp2_with fail
  refine (allDigits_any b _ hb).mono ?_
  rintro e w' ⟨⟨r, rfl, hr⟩, hw'⟩
  subst w'
  cases r
  · go_wp2
    go_ret
    exact ⟨rfl, 0, rfl⟩
  have HB : Hid (Digits b.data.toList) := hr rfl
  clear hr
  have la : lead a.data.toList ≤ a.size := by simpa using lead_le a.data.toList
  have lb : lead b.data.toList ≤ b.size := by simpa using lead_le b.data.toList
  by_cases sa : a.size - lead a.data.toList ≤ 18
  · by_cases sb : b.size - lead b.data.toList ≤ 18
    · go_wp2_with fail
      refine (significant_any a _ ha).mono ?_
      rintro e w' ⟨rfl, hw'⟩
      subst w'
      go_wp2_with (go_at_call 17; refine (maxDigits_any _).mono ?_; rintro e w' ⟨rfl, hw'⟩; subst w')
      refine (significant_any b _ hb).mono ?_
      rintro e w' ⟨rfl, hw'⟩
      subst w'
      go_wp2_with (go_at_call 17; refine (maxDigits_any _).mono ?_; rintro e w' ⟨rfl, hw'⟩; subst w')
      have HVa : Hid (val a.data.toList ≤ 9223372036854775807) := by have := val_small _ HA.out (by simpa using sa); unfold Hid; omega
      have HVb : Hid (val b.data.toList ≤ 9223372036854775807) := by have := val_small _ HB.out (by simpa using sb); unfold Hid; omega
      have HC : Hid (compareBytes a.data.toList b.data.toList = sgn (val a.data.toList) (val b.data.toList)) := cmp_val _ _ (by simpa using HL.out) HA.out HB.out
      refine (zznumber_any a _ ha HA.out HVa.out).mono ?_
      rintro e w' ⟨rfl, hw'⟩
      subst w'
      go_wp2_with fail
      refine (zznumber_any b _ hb HB.out HVb.out).mono ?_
      rintro e w' ⟨rfl, hw'⟩
      subst w'
      by_cases c1 : val a.data.toList < val b.data.toList
      · go_wp2_with fail
        refine (cmpText_any a b _ (by omega) (by omega)).mono ?_
        rintro e w' ⟨rfl, q, rfl⟩
        rw [HC.out, sgn_lt c1]
        go_wp2
        go_ret
        exact ⟨rfl, q, rfl⟩
      by_cases c2 : val b.data.toList < val a.data.toList
      · go_wp2_with fail
        refine (cmpText_any a b _ (by omega) (by omega)).mono ?_
        rintro e w' ⟨rfl, q, rfl⟩
        rw [HC.out, sgn_gt c2]
        go_wp2
        go_ret
        exact ⟨rfl, q, rfl⟩
      · go_wp2_with fail
        refine (cmpText_any a b _ (by omega) (by omega)).mono ?_
        rintro e w' ⟨rfl, q, rfl⟩
        rw [HC.out, sgn_eq (by omega) (by omega)]
        go_wp2
        go_ret
        exact ⟨rfl, q, rfl⟩
    · go_wp2_with fail
      refine (significant_any a _ ha).mono ?_
      rintro e w' ⟨rfl, hw'⟩
      subst w'
      go_wp2_with (go_at_call 17; refine (maxDigits_any _).mono ?_; rintro e w' ⟨rfl, hw'⟩; subst w')
      refine (significant_any b _ hb).mono ?_
      rintro e w' ⟨rfl, hw'⟩
      subst w'
      go_wp2_with (go_at_call 17; refine (maxDigits_any _).mono ?_; rintro e w' ⟨rfl, hw'⟩; subst w')
      go_ret
      exact ⟨rfl, 0, rfl⟩
  · go_wp2_with fail
    refine (significant_any a _ ha).mono ?_
    rintro e w' ⟨rfl, hw'⟩
    subst w'
    go_wp2_with (go_at_call 17; refine (maxDigits_any _).mono ?_; rintro e w' ⟨rfl, hw'⟩; subst w')
    go_ret
    exact ⟨rfl, 0, rfl⟩
end Go.Proofs.Qxb6601031a
