import Derived.Test.Qxb6601031aRows
import Derived.WalkKit
import Derived.WalkSpells
import Derived.Lib.Bytealg
import Derived.Lib.Strings
import Derived.Lib.Slices
import Derived.Lib.Walk
namespace Go.Proofs.Qxb6601031a
open Go.RowKit
open Go.Lib (compareBytes)

/-! ### The plain law -/

/-- The order of times. -/
def cmpT (t1 : Int) (l1 : Bool) (f1 : List UInt8) (t2 : Int) (l2 : Bool) (f2 : List UInt8) : Int :=
  if t1 < t2 then -1 else if t2 < t1 then 1 else if l1 = l2 then compareBytes f1 f2 else if l2 = true then -1 else 1

theorem cmp_self : ∀ a : List UInt8, compareBytes a a = 0
  | [] => rfl
  | x :: a => by
    have h : ¬ x < x := UInt8.lt_irrefl x
    rw [compareBytes, if_neg h, if_neg h, cmp_self a]

theorem cmp_neg : ∀ a b : List UInt8, compareBytes b a = -compareBytes a b
  | [], [] => rfl
  | [], _ :: _ => rfl
  | _ :: _, [] => rfl
  | x :: a, y :: b => by
    have ih := cmp_neg a b
    rw [compareBytes, compareBytes]
    by_cases h1 : x < y
    · have h2 : ¬ y < x := by rw [UInt8.lt_iff_toNat_lt] at h1 ⊢; omega
      simp only [h1, h2, if_true, if_false]; rfl
    · by_cases h2 : y < x
      · simp only [h1, h2, if_true, if_false]
      · simp only [h1, h2, if_false]; exact ih

theorem cmp_three : ∀ a b : List UInt8, compareBytes a b = -1 ∨ (compareBytes a b = 0 ∧ a = b) ∨ compareBytes a b = 1
  | [], [] => .inr (.inl ⟨rfl, rfl⟩)
  | [], _ :: _ => .inl rfl
  | _ :: _, [] => .inr (.inr rfl)
  | x :: a, y :: b => by
    rw [compareBytes]
    by_cases h1 : x < y
    · rw [if_pos h1]; exact .inl rfl
    · rw [if_neg h1]
      by_cases h2 : y < x
      · rw [if_pos h2]; exact .inr (.inr rfl)
      · rw [if_neg h2]
        have e : x = y := by
          rw [UInt8.lt_iff_toNat_lt] at h1 h2
          exact UInt8.toNat_inj.1 (by omega)
        subst e
        rcases cmp_three a b with h | ⟨h, rfl⟩ | h
        · exact .inl h
        · exact .inr (.inl ⟨h, rfl⟩)
        · exact .inr (.inr h)

/-! ### The contracts -/

set_option maxHeartbeats 1000000 in
set_option maxRecDepth 100000 in
/-- internal/bytealg.CompareString, after the shelf's template. -/
theorem compareString_any (a b : ByteArray) (w : World) :
    Calls Try.prog 32 #[.string a, .string b] w fun e w' => e = .returned (.int .i64 (compareBytes a.data.toList b.data.toList)) ∧ w' = w := by
  go_enter Try.func32, Try.ntmps32
  go_wp2
  rw [run_callFunc_extern Try.func33 (by kernel_rfl) (by kernel_rfl) (by kernel_rfl) (e := Extern.BytealgCompare.compare) (by kernel_rfl), Lib.run_compareString]
  simp only [Result.andThen]
  rw [Oper.upon_value]
  go_wp2
  go_ret
  exact ⟨rfl, rfl⟩

/-- strings.Compare. -/
theorem stringsCompare_any (a b : ByteArray) (w : World) :
    Calls Try.prog 31 #[.string a, .string b] w fun e w' => e = .returned (.int .i64 (compareBytes a.data.toList b.data.toList)) ∧ w' = w := by
  go_enter Try.func31, Try.ntmps31
  go_wp2_with (go_at_call 32; refine (compareString_any a b _).mono ?_; rintro e w' ⟨rfl, rfl⟩)
  go_ret
  exact ⟨rfl, rfl⟩

theorem ret_eq {k : IntKind} {a b : Int} (h : b = a) : Ending.returned (.int k a) = .returned (.int k b) := by rw [h]

/-- A time as a value. -/
abbrev timeV (t : Int) (l : Bool) (f : ByteArray) : Value := .agg #[.int .i64 t, .bool l, .string f]

set_option maxHeartbeats 800000 in
theorem compare_any (t1 t2 : Int) (l1 l2 : Bool) (f1 f2 : ByteArray) (w : World) :
    Calls Try.prog 30 #[timeV t1 l1 f1, timeV t2 l2 f2] w fun e w' => e = .returned (.int .i64 (cmpT t1 l1 f1.data.toList t2 l2 f2.data.toList)) ∧ Grown w w' ∧ Below w.heap.size w w' := by
  by_cases h1 : t1 < t2
  · go_enter Try.func30, Try.ntmps30
    go_wp2
    go_ret
    exact ⟨ret_eq (by rw [cmpT, if_pos h1]), ((Grown.refl _).alloc _ _).alloc _ _, ((Below.refl _ _).alloc (Nat.le_refl _) _).alloc (by simp) _⟩
  by_cases h2 : t2 < t1
  · go_enter Try.func30, Try.ntmps30
    go_wp2
    go_ret
    exact ⟨ret_eq (by rw [cmpT, if_neg (by omega), if_pos h2]), ((Grown.refl _).alloc _ _).alloc _ _, ((Below.refl _ _).alloc (Nat.le_refl _) _).alloc (by simp) _⟩
  obtain rfl : t1 = t2 := by omega
  clear h1 h2
  have hn : ¬ t1 < t1 := by omega
  by_cases h3 : l1 = l2
  · subst h3
    have HR : Hid (cmpT t1 l1 f1.data.toList t1 l1 f2.data.toList = compareBytes f1.data.toList f2.data.toList) := by unfold Hid; rw [cmpT, if_neg hn, if_neg hn, if_pos rfl]
    clear hn
    cases l1
    all_goals
      go_enter Try.func30, Try.ntmps30
      go_wp2_with (go_at_call 31; refine (stringsCompare_any f1 f2 _).mono ?_; rintro e w' ⟨rfl, rfl⟩)
      go_ret
      exact ⟨ret_eq HR.out, ((Grown.refl _).alloc _ _).alloc _ _, ((Below.refl _ _).alloc (Nat.le_refl _) _).alloc (by simp) _⟩
  · cases l1 <;> cases l2
    · exact absurd rfl h3
    · have HR : Hid (cmpT t1 false f1.data.toList t1 true f2.data.toList = -1) := by unfold Hid; rw [cmpT, if_neg hn, if_neg hn, if_neg (by decide), if_pos rfl]
      clear hn h3
      go_enter Try.func30, Try.ntmps30
      go_wp2
      go_ret
      exact ⟨ret_eq HR.out, ((Grown.refl _).alloc _ _).alloc _ _, ((Below.refl _ _).alloc (Nat.le_refl _) _).alloc (by simp) _⟩
    · have HR : Hid (cmpT t1 true f1.data.toList t1 false f2.data.toList = 1) := by unfold Hid; rw [cmpT, if_neg hn, if_neg hn, if_neg (by decide), if_neg (by decide)]
      clear hn h3
      go_enter Try.func30, Try.ntmps30
      go_wp2
      go_ret
      exact ⟨ret_eq HR.out, ((Grown.refl _).alloc _ _).alloc _ _, ((Below.refl _ _).alloc (Nat.le_refl _) _).alloc (by simp) _⟩
    · exact absurd rfl h3

/-- 'Grown' step by step. -/
theorem Grown.trans' {a b c : World} (h : Grown a b) (k : Grown b c) : Grown a c :=
  ⟨World.keptBut_trans h.1 k.1, fun x => (k.2.1 x).trans (h.2.1 x), Nat.le_trans h.2.2 k.2.2⟩

set_option maxHeartbeats 800000 in
theorem zzcompare_any (t1 t2 : Int) (l1 l2 : Bool) (f1 f2 : ByteArray) (w : World) :
    Calls Try.prog 25 #[timeV t1 l1 f1, timeV t2 l2 f2] w fun e w' => e = .returned (.int .i64 (cmpT t1 l1 f1.data.toList t2 l2 f2.data.toList)) ∧ Grown w w' ∧ Below w.heap.size w w' := by
  go_enter Try.func25, Try.ntmps25
  go_wp2_with fail
  refine (compare_any t1 t2 l1 l2 f1 f2 _).mono ?_
  rintro e w1 ⟨rfl, hg, hb⟩
  go_wp2
  go_ret
  exact ⟨rfl, Grown.trans' (((Grown.refl _).alloc _ _).alloc _ _) hg, (((Below.refl _ _).alloc (Nat.le_refl _) _).alloc (by simp) _).trans (hb.mono (by simp; omega))⟩

theorem maketime_any (t : Int) (l : Bool) (f : ByteArray) (w : World) :
    Calls Try.prog 23 #[.int .i64 t, .bool l, .string f] w fun e w' => e = .returned (timeV t l f) ∧ w' = w.alloc (.cells #[.int .i64 t, .bool l, .string f] 32) := by
  go_enter Try.func23, Try.ntmps23
  go_wp2
  exact bodyPost_ret (v := timeV t l f) (by simp [results, Try.results23, go_sem]) rfl ⟨rfl, rfl⟩
end Go.Proofs.Qxb6601031a
