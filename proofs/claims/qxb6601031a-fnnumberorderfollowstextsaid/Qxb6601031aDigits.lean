import Derived.Test.Qxb6601031aNumber
namespace Go.Proofs.Qxb6601031a
open Go.RowKit

/-- How many '0' bytes lead. -/
def lead : List UInt8 → Nat
  | [] => 0
  | c :: l => if c.toNat = 48 then lead l + 1 else 0

theorem lead_le : ∀ l : List UInt8, lead l ≤ l.length
  | [] => Nat.le_refl _
  | c :: l => by
    unfold lead
    split
    · have := lead_le l; simp; omega
    · omega

/-- k bytes '0', and then none: k lead. -/
theorem lead_eq : ∀ (l : List UInt8) (k : Nat), k ≤ l.length → (∀ j (h : j < l.length), j < k → l[j].toNat = 48) → (∀ h : k < l.length, l[k].toNat ≠ 48) → lead l = k
  | [], k, hk, _, _ => by simp at hk; subst hk; rfl
  | c :: l, 0, _, _, h2 => by
    have := h2 (by simp)
    simp only [List.getElem_cons_zero] at this
    unfold lead
    rw [if_neg this]
  | c :: l, k + 1, hk, h1, h2 => by
    have h0 := h1 0 (by simp) (by omega)
    simp only [List.getElem_cons_zero] at h0
    unfold lead
    rw [if_pos h0, lead_eq l k (by simpa using hk) (fun j h hj => by have := h1 (j + 1) (by simpa using h) (by omega); simpa using this) (fun h => by have := h2 (by simpa using h); simpa using this)]

theorem lead_zero : ∀ (l : List UInt8), val (l.take (lead l)) = 0
  | [] => rfl
  | c :: l => by
    unfold lead
    split
    · rename_i h
      rw [List.take_succ_cons, val_cons, lead_zero l, h]
      simp
    · rfl

/-- Leading zeros count for nothing. -/
theorem val_drop_lead (l : List UInt8) : val (l.drop (lead l)) = val l := by
  have h := val_append (l.take (lead l)) (l.drop (lead l))
  rw [List.take_append_drop, lead_zero] at h
  omega

theorem pow10_le {a b : Nat} (h : a ≤ b) : (10 : Int) ^ a ≤ 10 ^ b := by
  have := Nat.pow_le_pow_right (n := 10) (by decide) h
  exact_mod_cast this

/-- At most eighteen significant digits: the value fits. -/
theorem val_small (l : List UInt8) (hd : Digits l) (hs : l.length - lead l ≤ 18) : val l < 1000000000000000000 := by
  rw [← val_drop_lead l]
  have h := (val_bounds _ (hd.drop (lead l))).2
  have h2 := pow10_le (show (l.drop (lead l)).length ≤ 18 by simp; omega)
  have h3 : (10 : Int) ^ 18 = 1000000000000000000 := by decide
  omega

/-- It returned a bool that, where true, tells digits. -/
def TellsDigits (e : Ending) (l : List UInt8) : Prop := ∃ r, e = .returned (.bool r) ∧ (r = true → Digits l)

theorem digits_of (s : ByteArray) (h : ∀ k (hk : k < s.size), 48 ≤ s[k].toNat ∧ s[k].toNat ≤ 57) : Digits s.data.toList := by
  intro c hc
  obtain ⟨k, hk, rfl⟩ := List.getElem_of_mem hc
  exact h k (by simpa using hk)

theorem allDigits_any (s : ByteArray) (w : World) (hs : s.size ≤ 65536) :
    Calls Try.prog 15 #[.string s] w fun e w' => TellsDigits e s.data.toList ∧ w' = w := by
  go_enter Try.func15, Try.ntmps15
  go_wp2
  go_loop [3] (fun i => ∃ k : Nat, k ≤ s.size ∧ i = .int .i64 k ∧ Hid (∀ j (hj : j < s.size), j < k → 48 ≤ s[j].toNat ∧ s[j].toNat ≤ 57)) (fun i => s.size - (intOf i).toNat)
  case atStart => exact ⟨0, Nat.zero_le _, rfl, fun j _ h => absurd h (by omega)⟩
  case round =>
    obtain ⟨k, hk, rfl, HD⟩ := hrel
    by_cases hlt : k < s.size
    · by_cases h1 : (s[k].toNat : Int) < 48
      · go_wp2
        go_ret
        exact ⟨⟨false, rfl, fun h => absurd h (by decide)⟩, rfl⟩
      by_cases h2 : 57 < (s[k].toNat : Int)
      · go_wp2
        go_ret
        exact ⟨⟨false, rfl, fun h => absurd h (by decide)⟩, rfl⟩
      · go_wp2
        go_round
        case rel =>
          refine ⟨k + 1, by omega, by go_num, fun j hj hjk => ?_⟩
          by_cases e : j = k
          · subst e; omega
          · exact HD.out j hj (by omega)
        case measure => simp [intOf]; omega
    · go_wp2
      go_ret
      exact ⟨⟨true, rfl, fun _ => digits_of s fun j hj => HD.out j hj (by omega)⟩, rfl⟩

theorem significant_any (s : ByteArray) (w : World) (hs : s.size ≤ 65536) :
    Calls Try.prog 16 #[.string s] w fun e w' => e = .returned (.int .i64 ((s.size : Int) - (lead s.data.toList : Nat))) ∧ w' = w := by
  go_enter Try.func16, Try.ntmps16
  go_wp2
  go_loop [3] (fun i => ∃ k : Nat, k ≤ s.size ∧ i = .int .i64 k ∧ Hid (∀ j (hj : j < s.size), j < k → s[j].toNat = 48)) (fun i => s.size - (intOf i).toNat)
  case atStart => exact ⟨0, Nat.zero_le _, rfl, fun j _ h => absurd h (by omega)⟩
  case round =>
    obtain ⟨k, hk, rfl, HD⟩ := hrel
    by_cases hlt : k < s.size
    · by_cases h1 : (s[k].toNat : Int) = 48
      · have l1 : (48 : Int) ≤ (s[k].toNat : Int) := by omega
        have l2 : (s[k].toNat : Int) ≤ 48 := by omega
        clear h1
        go_wp2
        go_round
        case rel =>
          refine ⟨k + 1, by omega, by go_num, fun j hj hjk => ?_⟩
          by_cases e : j = k
          · subst e; omega
          · exact HD.out j hj (by omega)
        case measure => simp [intOf]; omega
      · have f1 : ((s[k].toNat : Int) == 48) = false := by simpa using h1
        have HE : Hid (lead s.data.toList = k) := lead_eq _ k (by simpa using hk) (fun j h hj => HD.out j (by simpa using h) hj) (fun h e => h1 (by exact_mod_cast e))
        clear h1
        go_wp2
        go_ret
        exact ⟨ret_int (by rw [HE.out]), rfl⟩
    · have HE : Hid (lead s.data.toList = k) := lead_eq _ k (by simpa using hk) (fun j h hj => HD.out j (by simpa using h) hj) (fun h => absurd h (by simp; omega))
      go_wp2
      go_ret
      exact ⟨ret_int (by rw [HE.out]), rfl⟩

theorem maxDigits_any (w : World) : Calls Try.prog 17 #[] w fun e w' => e = .returned (.int .i64 18) ∧ w' = w := by
  go_enter Try.func17, Try.ntmps17
  go_wp2
  go_ret
  exact ⟨rfl, rfl⟩
end Go.Proofs.Qxb6601031a
