import Derived.Test.Qxb6601031aDigits
namespace Go.Proofs.Qxb6601031a
open Go.RowKit

/-- Ten to the t, behind a name. -/
def p10 (t : Nat) : Int := 10 ^ t

/-- What the loop of the law holds on to when k bytes are still to be read. -/
theorem place_step (s : ByteArray) (q : Nat) (hq : q < s.size) :
    val (s.data.toList.drop q) = val (s.data.toList.drop (q + 1)) + ((s[q].toNat : Int) - 48) * p10 (s.size - (q + 1)) ∧ p10 (s.size - q) = p10 (s.size - (q + 1)) * 10 := by
  have e : s.data.toList.drop q = s[q] :: s.data.toList.drop (q + 1) := List.drop_eq_getElem_cons (by simpa using hq)
  constructor
  · rw [e, val_cons]
    have hl : (s.data.toList.drop (q + 1)).length = s.size - (q + 1) := by simp
    rw [hl]
    unfold p10
    omega
  · unfold p10
    rw [show s.size - q = (s.size - (q + 1)) + 1 by omega, Int.pow_succ]

theorem place_bounds (s : ByteArray) (hd : Digits s.data.toList) (q : Nat) (hq : q < s.size) (h18 : s.size - q ≤ 18) :
    0 ≤ val (s.data.toList.drop (q + 1)) ∧ val (s.data.toList.drop (q + 1)) + ((s[q].toNat : Int) - 48) * p10 (s.size - (q + 1)) ≤ 1000000000000000000 ∧ 0 ≤ ((s[q].toNat : Int) - 48) * p10 (s.size - (q + 1)) ∧ ((s[q].toNat : Int) - 48) * p10 (s.size - (q + 1)) ≤ 1000000000000000000 ∧ 1 ≤ p10 (s.size - (q + 1)) ∧ p10 (s.size - (q + 1)) ≤ 100000000000000000 := by
  have h0 := val_nonneg _ (hd.drop (q + 1))
  have h1 := (val_bounds _ (hd.drop q)).2
  have h2 := (place_step s q hq).1
  have hl : (s.data.toList.drop q).length = s.size - q := by simp
  rw [hl] at h1
  have h3 := pow10_le h18
  have h4 : (10 : Int) ^ 18 = 1000000000000000000 := by decide
  have h5 : (10 : Int) ^ 17 = 100000000000000000 := by decide
  have hdq := digit_at hd q hq
  have hp : 0 < p10 (s.size - (q + 1)) := pow10_pos _
  have hp2 : p10 (s.size - (q + 1)) ≤ 10 ^ 17 := pow10_le (by omega)
  have hm : 0 ≤ ((s[q].toNat : Int) - 48) * p10 (s.size - (q + 1)) := Int.mul_nonneg (by omega) (by omega)
  refine ⟨h0, by omega, hm, by omega, by omega, by omega⟩

theorem ret_same (a : Int) : Ending.returned (.bool (a == a)) = .returned (.bool true) := by rw [beq_self_eq_true]

set_option maxHeartbeats 800000 in
theorem places_main (s : ByteArray) (w : World) (hs : s.size ≤ 65536) :
    Calls Try.prog 5 #[.string s] w fun e w' => e = .returned (.bool true) ∧ w' = w := by
  go_enter Try.func5, Try.ntmps5
  go_wp2_with (first | (go_at_call 14; go_in) | fail)
  refine (allDigits_any s _ hs).mono ?_
  rintro e w' ⟨⟨r, rfl, hr⟩, hw'⟩
  subst w'
  cases r
  · go_wp2
    go_ret
    exact ⟨rfl, rfl⟩
  have HD : Hid (Digits s.data.toList) := hr rfl
  clear hr
  have hle : lead s.data.toList ≤ s.size := by simpa using lead_le s.data.toList
  by_cases h18 : s.size - lead s.data.toList ≤ 18
  · have hv := val_small _ HD.out (by simpa using h18)
    go_wp2_with (first | (go_at_call 16; refine (significant_any s _ hs).mono ?_; rintro e w' ⟨rfl, hw'⟩; subst w') | (go_at_call 17; refine (maxDigits_any _).mono ?_; rintro e w' ⟨rfl, hw'⟩; subst w'))
    have HV : Hid (val s.data.toList < 1000000000000000000) := hv
    clear hv
    go_loop [4, 5, 6] (fun a p i => ∃ k : Nat, lead s.data.toList ≤ k ∧ k ≤ s.size ∧ i = .int .i64 ((k : Int) - 1) ∧ p = .int .i64 (p10 (s.size - k)) ∧ a = .int .i64 (val (s.data.toList.drop k))) (fun _ _ i => (intOf i + 1).toNat)
    case atStart =>
      refine ⟨s.size, hle, Nat.le_refl _, rfl, ?_, ?_⟩
      · rw [Nat.sub_self]; rfl
      · rw [List.drop_of_length_le (by simp)]; rfl
    case round =>
      obtain ⟨k, hk1, hk2, rfl, rfl, rfl⟩ := hrel
      by_cases hlt : lead s.data.toList < k
      · obtain ⟨q, rfl⟩ : ∃ q, k = q + 1 := ⟨k - 1, by omega⟩
        have hq : q < s.size := by omega
        obtain ⟨b0, b1, b2, b3, b4, b5⟩ := place_bounds s HD.out q hq (by omega)
        have hdq := digit_at HD.out q hq
        have d1 : (48 : Int) ≤ (s[q].toNat : Int) := by omega
        have d2 : (s[q].toNat : Int) ≤ 57 := by omega
        have HS : Hid (val (s.data.toList.drop q) = val (s.data.toList.drop (q + 1)) + ((s[q].toNat : Int) - 48) * p10 (s.size - (q + 1)) ∧ p10 (s.size - q) = p10 (s.size - (q + 1)) * 10) := place_step s q hq
        clear hdq
        go_wp2
        go_round
        case rel => exact ⟨q, by omega, by omega, by go_num, by rw [HS.out.2], by rw [HS.out.1]⟩
        case measure => simp [intOf]
      · have ek : k = lead s.data.toList := by omega
        subst ek
        have HE : Hid (val (s.data.toList.drop (lead s.data.toList)) = val s.data.toList) := val_drop_lead _
        go_wp2_with (go_at_call 18; refine (zznumber_any s _ hs HD.out (by have := HV.out; omega)).mono ?_; rintro e w' ⟨rfl, hw'⟩; subst w')
        rw [HE.out]
        go_wp2
        go_ret
        exact ⟨ret_same _, rfl⟩
  · go_wp2_with (first | (go_at_call 16; refine (significant_any s _ hs).mono ?_; rintro e w' ⟨rfl, hw'⟩; subst w') | (go_at_call 17; refine (maxDigits_any _).mono ?_; rintro e w' ⟨rfl, hw'⟩; subst w'))
    go_ret
    exact ⟨rfl, rfl⟩
end Go.Proofs.Qxb6601031a
