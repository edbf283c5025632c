import Derived.Test.Qxb6601031aRows
import Derived.WalkKit
import Derived.WalkSpells
import Derived.Deep.QuietTactic
import Derived.BigQuiet
import Derived.Lib.Bytealg
namespace Go.Proofs.Qxb6601031a
open Go.RowKit
open Go.Lib (compareBytes)

theorem cmp_drop : ∀ (a b : List UInt8) (k : Nat), k ≤ a.length → k ≤ b.length → (∀ j (h1 : j < a.length) (h2 : j < b.length), j < k → a[j] = b[j]) → compareBytes a b = compareBytes (a.drop k) (b.drop k)
  | _, _, 0, _, _, _ => rfl
  | [], b, k + 1, h, _, _ => by simp at h
  | _ :: _, [], k + 1, _, h, _ => by simp at h
  | x :: a, y :: b, k + 1, h1, h2, h3 => by
    have e := h3 0 (by simp) (by simp) (by omega)
    simp only [List.getElem_cons_zero] at e
    subst e
    have hlt : ¬ x < x := UInt8.lt_irrefl x
    rw [compareBytes, if_neg hlt, if_neg hlt, cmp_drop a b k (by simpa using h1) (by simpa using h2) (fun j hj1 hj2 hj => h3 (j + 1) (Nat.succ_lt_succ hj1) (Nat.succ_lt_succ hj2) (by omega))]
    rfl

/-- The first byte that parts decides. -/
theorem cmp_at (a b : List UInt8) (k : Nat) (h1 : k < a.length) (h2 : k < b.length) (he : ∀ j (h1 : j < a.length) (h2 : j < b.length), j < k → a[j] = b[j]) :
    (a[k].toNat < b[k].toNat → compareBytes a b = -1) ∧ (b[k].toNat < a[k].toNat → compareBytes a b = 1) := by
  rw [cmp_drop a b k (by omega) (by omega) he, List.drop_eq_getElem_cons h1, List.drop_eq_getElem_cons h2]
  constructor
  · intro h
    rw [compareBytes, if_pos (UInt8.lt_iff_toNat_lt.2 h)]
  · intro h
    rw [compareBytes, if_neg (by rw [UInt8.lt_iff_toNat_lt]; omega), if_pos (UInt8.lt_iff_toNat_lt.2 h)]

/-- No byte parts up to the shorter one's end: the lengths decide. -/
theorem cmp_end (a b : List UInt8) (k : Nat) (hk1 : k ≤ a.length) (hk2 : k ≤ b.length) (he : ∀ j (h1 : j < a.length) (h2 : j < b.length), j < k → a[j] = b[j]) :
    (k = a.length → k = b.length → compareBytes a b = 0) ∧ (k = a.length → k < b.length → compareBytes a b = -1) ∧ (k < a.length → k = b.length → compareBytes a b = 1) := by
  rw [cmp_drop a b k hk1 hk2 he]
  refine ⟨fun e1 e2 => ?_, fun e1 e2 => ?_, fun e1 e2 => ?_⟩
  · rw [List.drop_of_length_le (by omega), List.drop_of_length_le (by omega)]; rfl
  · rw [List.drop_of_length_le (l := a) (by omega), List.drop_eq_getElem_cons e2]; rfl
  · rw [List.drop_of_length_le (l := b) (by omega), List.drop_eq_getElem_cons e1]; rfl

theorem drew3 (w : World) (a b c : Nat) : ((w.drewN a).drewN b).drewN c = w.drewN (a + b + c) := by rw [World.drewN_drewN, World.drewN_drewN, Nat.add_assoc]

theorem ret_int' {k : IntKind} {a b : Int} (h : a = b) : Ending.returned (.int k b) = .returned (.int k a) := by rw [h]

set_option maxHeartbeats 800000 in
theorem cmpText_gt (a b : ByteArray) (w : World) (ha : a.size ≤ 1000000) (_hb : b.size ≤ 1000000) (hlen : b.size < a.size) :
    Calls Try.prog 20 #[.string a, .string b] w fun e w' => e = .returned (.int .i64 (compareBytes a.data.toList b.data.toList)) ∧ ∃ q, w' = w.drewN q := by
  go_enter Try.func20, Try.ntmps20
  go_wp2
  go_loopw [6] (fun i wr => ∃ (k q : Nat), k ≤ b.size ∧ i = .int .i64 k ∧ wr = w.drewN q ∧ Hid (∀ j (h1 : j < a.data.toList.length) (h2 : j < b.data.toList.length), j < k → a.data.toList[j] = b.data.toList[j])) (fun i _ => b.size - (intOf i).toNat)
  case atStart => exact ⟨0, 0, Nat.zero_le _, rfl, rfl, fun j _ _ h => absurd h (by omega)⟩
  case round =>
    obtain ⟨k, q, hk, rfl, rfl, HE⟩ := hrel
    by_cases hlt : k < b.size
    · have hka : k < a.size := by omega
      have hkb : k < b.size := by omega
      have ia : (k : Int) < (a.size : Int) := by omega
      have ib : (k : Int) < (b.size : Int) := by omega
      have HC := cmp_at a.data.toList b.data.toList k (by simpa using hka) (by simpa using hkb) HE.out
      have HC' : Hid ((a[k].toNat < b[k].toNat → compareBytes a.data.toList b.data.toList = -1) ∧ (b[k].toNat < a[k].toNat → compareBytes a.data.toList b.data.toList = 1)) := HC
      clear HC
      rcases Nat.lt_trichotomy a[k].toNat b[k].toNat with h | h | h
      · have h' : (a[k].toNat : Int) < (b[k].toNat : Int) := by omega
        clear h
        go_wp2
        go_quiet (fail)
        go_wp2
        go_quiet (fail)
        go_wp2
        go_ret
        exact ⟨ret_int' (HC'.out.1 (by omega)), _, drew3 _ _ _ _⟩
      · have HK : Hid (a[k] = b[k]) := UInt8.toNat_inj.1 h
        have l1 : (a[k].toNat : Int) ≤ (b[k].toNat : Int) := by omega
        have l2 : (b[k].toNat : Int) ≤ (a[k].toNat : Int) := by omega
        clear h
        go_wp2
        go_quiet (fail)
        go_wp2
        go_roundw
        case rel =>
          refine ⟨k + 1, _, by omega, by go_num, rfl, fun j h1 h2 hj => ?_⟩
          by_cases e : j = k
          · subst e; exact HK.out
          · exact HE.out j h1 h2 (by omega)
        case measure => simp [intOf]; omega
      · have h' : (b[k].toNat : Int) < (a[k].toNat : Int) := by omega
        clear h
        go_wp2
        go_quiet (fail)
        go_wp2
        go_quiet (fail)
        go_wp2
        go_ret
        exact ⟨ret_int' (HC'.out.2 (by omega)), _, drew3 _ _ _ _⟩
    · have HC := cmp_end a.data.toList b.data.toList k (by simp; omega) (by simp; omega) HE.out
      have HC' : Hid ((k = a.size → k = b.size → compareBytes a.data.toList b.data.toList = 0) ∧ (k = a.size → k < b.size → compareBytes a.data.toList b.data.toList = -1) ∧ (k < a.size → k = b.size → compareBytes a.data.toList b.data.toList = 1)) := (by simpa using HC : _ ∧ _)
      clear HC
      go_wp2
      go_ret
      exact ⟨ret_int' (HC'.out.2.2 (by omega) (by omega)), _, rfl⟩
set_option maxHeartbeats 800000 in
theorem cmpText_le (a b : ByteArray) (w : World) (_ha : a.size ≤ 1000000) (hb : b.size ≤ 1000000) (hlen : ¬ b.size < a.size) :
    Calls Try.prog 20 #[.string a, .string b] w fun e w' => e = .returned (.int .i64 (compareBytes a.data.toList b.data.toList)) ∧ ∃ q, w' = w.drewN q := by
  go_enter Try.func20, Try.ntmps20
  go_wp2
  go_loopw [6] (fun i wr => ∃ (k q : Nat), k ≤ a.size ∧ i = .int .i64 k ∧ wr = w.drewN q ∧ Hid (∀ j (h1 : j < a.data.toList.length) (h2 : j < b.data.toList.length), j < k → a.data.toList[j] = b.data.toList[j])) (fun i _ => a.size - (intOf i).toNat)
  case atStart => exact ⟨0, 0, Nat.zero_le _, rfl, rfl, fun j _ _ h => absurd h (by omega)⟩
  case round =>
    obtain ⟨k, q, hk, rfl, rfl, HE⟩ := hrel
    by_cases hlt : k < a.size
    · have hka : k < a.size := by omega
      have hkb : k < b.size := by omega
      have ia : (k : Int) < (a.size : Int) := by omega
      have ib : (k : Int) < (b.size : Int) := by omega
      have HC := cmp_at a.data.toList b.data.toList k (by simpa using hka) (by simpa using hkb) HE.out
      have HC' : Hid ((a[k].toNat < b[k].toNat → compareBytes a.data.toList b.data.toList = -1) ∧ (b[k].toNat < a[k].toNat → compareBytes a.data.toList b.data.toList = 1)) := HC
      clear HC
      rcases Nat.lt_trichotomy a[k].toNat b[k].toNat with h | h | h
      · have h' : (a[k].toNat : Int) < (b[k].toNat : Int) := by omega
        clear h
        go_wp2
        go_quiet (fail)
        go_wp2
        go_quiet (fail)
        go_wp2
        go_ret
        exact ⟨ret_int' (HC'.out.1 (by omega)), _, drew3 _ _ _ _⟩
      · have HK : Hid (a[k] = b[k]) := UInt8.toNat_inj.1 h
        have l1 : (a[k].toNat : Int) ≤ (b[k].toNat : Int) := by omega
        have l2 : (b[k].toNat : Int) ≤ (a[k].toNat : Int) := by omega
        clear h
        go_wp2
        go_quiet (fail)
        go_wp2
        go_roundw
        case rel =>
          refine ⟨k + 1, _, by omega, by go_num, rfl, fun j h1 h2 hj => ?_⟩
          by_cases e : j = k
          · subst e; exact HK.out
          · exact HE.out j h1 h2 (by omega)
        case measure => simp [intOf]; omega
      · have h' : (b[k].toNat : Int) < (a[k].toNat : Int) := by omega
        clear h
        go_wp2
        go_quiet (fail)
        go_wp2
        go_quiet (fail)
        go_wp2
        go_ret
        exact ⟨ret_int' (HC'.out.2 (by omega)), _, drew3 _ _ _ _⟩
    · have HC := cmp_end a.data.toList b.data.toList k (by simp; omega) (by simp; omega) HE.out
      have HC' : Hid ((k = a.size → k = b.size → compareBytes a.data.toList b.data.toList = 0) ∧ (k = a.size → k < b.size → compareBytes a.data.toList b.data.toList = -1) ∧ (k < a.size → k = b.size → compareBytes a.data.toList b.data.toList = 1)) := (by simpa using HC : _ ∧ _)
      clear HC
      by_cases hl2 : a.size < b.size
      · go_wp2
        go_ret
        exact ⟨ret_int' (HC'.out.2.1 (by omega) (by omega)), _, rfl⟩
      · go_wp2
        go_ret
        exact ⟨ret_int' (HC'.out.1 (by omega) (by omega)), _, rfl⟩

/-- 'zzCmpText': the bytes' order. -/
theorem cmpText_any (a b : ByteArray) (w : World) (ha : a.size ≤ 1000000) (hb : b.size ≤ 1000000) :
    Calls Try.prog 20 #[.string a, .string b] w fun e w' => e = .returned (.int .i64 (compareBytes a.data.toList b.data.toList)) ∧ ∃ q, w' = w.drewN q := by
  by_cases h : b.size < a.size
  · exact cmpText_gt a b w ha hb h
  · exact cmpText_le a b w ha hb h
end Go.Proofs.Qxb6601031a
