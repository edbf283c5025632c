import Derived.Test.Qxb6601031aKey
import Derived.Test.Qxb6601031aCmp
namespace Go.Proofs.Qxb6601031a
open Go.RowKit
open Go.Lib (compareBytes)

/-- The keys' order is the times'. -/
theorem key_law (t1 t2 : Int) (l1 l2 : Bool) (f1 f2 : List UInt8) (a1 : -9223372036854775808 ≤ t1) (b1 : t1 ≤ 9223372036854775807) (a2 : -9223372036854775808 ≤ t2) (b2 : t2 ≤ 9223372036854775807) :
    compareBytes (keyL (t1 + 9223372036854775808) l1 f1) (keyL (t2 + 9223372036854775808) l2 f2) = cmpT t1 l1 f1 t2 l2 f2 := by
  unfold cmpT
  by_cases c1 : t1 < t2
  · rw [if_pos c1, key_lt (by omega) (by omega) (by omega)]
  · rw [if_neg c1]
    by_cases c2 : t2 < t1
    · rw [if_pos c2, cmp_neg, key_lt (by omega) (by omega) (by omega)]
      rfl
    · rw [if_neg c2]
      obtain rfl : t1 = t2 := by omega
      rw [key_same]
      cases l1 <;> cases l2
      · exact cmp_cons_eq rfl _ _
      · exact cmp_cons_lt (by decide) _ _
      · have h : compareBytes (0 :: f2) (1 :: f1) = -1 := cmp_cons_lt (by decide) _ _
        show compareBytes (1 :: f1) (0 :: f2) = 1
        rw [cmp_neg, h]
        rfl
      · exact cmp_cons_eq rfl _ _

theorem bytes22_any (t1 t2 : Int) (l1 l2 : Bool) (f1 f2 : ByteArray) (w : World) (h1 : f1.size ≤ 65536) (h2 : f2.size ≤ 65536) :
    Calls Try.prog 22 #[.int .i64 t1, .bool l1, .string f1, .int .i64 t2, .bool l2, .string f2] w fun e w' => e = .returned (.bool true) ∧ w' = w := by
  go_enter Try.func22, Try.ntmps22
  go_wp2
  go_ret
  exact ⟨rfl, rfl⟩

theorem Grown.cell' {w w' : World} (h : Grown w w') {b o : Nat} (hb : b < w.heap.size) : w'.cell? ⟨b, o, none⟩ = w.cell? ⟨b, o, none⟩ :=
  World.keptBut.cell h.1 hb (fun f => f)

/-- The two times' own variables, in a world that has at most grown. -/
theorem boxes' {w w1 : World} {A B : Array Value} (h : Grown ((((w.alloc (.cells A 32)).alloc (.cells A 32)).alloc (.cells B 32)).alloc (.cells B 32)) w1) :
    (∀ o, w1.cell? ⟨w.heap.size + 1, o, none⟩ = A[o]?) ∧ (∀ o, w1.cell? ⟨w.heap.size + 1 + 1 + 1, o, none⟩ = B[o]?) := by
  constructor
  · intro o
    rw [Grown.cell' h (by simp), World.cell?_alloc_lt _ _ _ (by simp), World.cell?_alloc_lt _ _ _ (by simp)]
    have := World.cell?_alloc_new (w.alloc (.cells A 32)) A 32 o
    rwa [World.size_alloc] at this
  · intro o
    rw [Grown.cell' h (by simp)]
    have := World.cell?_alloc_new (((w.alloc (.cells A 32)).alloc (.cells A 32)).alloc (.cells B 32)) B 32 o
    rwa [World.size_alloc, World.size_alloc, World.size_alloc] at this

theorem ret_same' (a b : Int) (h : a = b) : Ending.returned (.bool (a == b)) = .returned (.bool true) := by rw [h, beq_self_eq_true]

set_option maxHeartbeats 1600000 in
theorem agrees_main (t1 t2 : Int) (l1 l2 : Bool) (f1 f2 : ByteArray) (w : World) (h1 : f1.size ≤ 65536) (h2 : f2.size ≤ 65536)
    (a1 : -9223372036854775808 ≤ t1) (b1 : t1 ≤ 9223372036854775807) (a2 : -9223372036854775808 ≤ t2) (b2 : t2 ≤ 9223372036854775807) :
    Calls Try.prog 8 #[.int .i64 t1, .bool l1, .string f1, .int .i64 t2, .bool l2, .string f2] w fun e w' => e = .returned (.bool true) ∧ Grown w w' := by
  have HK : Hid (compareBytes (keyL (t1 + 9223372036854775808) l1 f1.data.toList) (keyL (t2 + 9223372036854775808) l2 f2.data.toList) = cmpT t1 l1 f1.data.toList t2 l2 f2.data.toList) := key_law t1 t2 l1 l2 _ _ a1 b1 a2 b2
  have k1 : Hid (∀ W, Calls Try.prog 24 #[.int .i64 t1, .bool l1, .string f1] W fun e w' => e = .returned (.string ⟨(keyL (t1 + 9223372036854775808) l1 f1.data.toList).toArray⟩) ∧ Grown W w') := fun W => key_any t1 l1 f1 W h1 a1 b1
  have k2 : Hid (∀ W, Calls Try.prog 24 #[.int .i64 t2, .bool l2, .string f2] W fun e w' => e = .returned (.string ⟨(keyL (t2 + 9223372036854775808) l2 f2.data.toList).toArray⟩) ∧ Grown W w') := fun W => key_any t2 l2 f2 W h2 a2 b2
  obtain ⟨K1, hK1⟩ : ∃ K : ByteArray, K = ⟨(keyL (t1 + 9223372036854775808) l1 f1.data.toList).toArray⟩ := ⟨_, rfl⟩
  obtain ⟨K2, hK2⟩ : ∃ K : ByteArray, K = ⟨(keyL (t2 + 9223372036854775808) l2 f2.data.toList).toArray⟩ := ⟨_, rfl⟩
  have z1 : K1.size ≤ 1000000 := by
    rw [hK1]; show (keyL _ _ _).toArray.size ≤ _; rw [List.size_toArray, keyL_length]; simp; omega
  have z2 : K2.size ≤ 1000000 := by
    rw [hK2]; show (keyL _ _ _).toArray.size ≤ _; rw [List.size_toArray, keyL_length]; simp; omega
  have HC : Hid (cmpT t1 l1 f1.data.toList t2 l2 f2.data.toList = compareBytes K1.data.toList K2.data.toList) := by
    unfold Hid; rw [hK1, hK2]; exact HK.out.symm
  rw [← hK1] at k1
  rw [← hK2] at k2
  clear HK hK1 hK2 a1 b1 a2 b2
  go_enter Try.func8, Try.ntmps8
  go_wp2_with (first | (go_at_call 22; refine (bytes22_any t1 t2 l1 l2 f1 f2 _ h1 h2).mono ?_; rintro e w' ⟨rfl, hw'⟩; subst w') | (go_at_call 23; refine (maketime_any _ _ _ _).mono ?_; rintro e w' ⟨rfl, rfl⟩))
  refine (k1.out _).mono ?_
  rintro e w1 ⟨rfl, g1⟩
  go_wp2_with fail
  refine (k2.out _).mono ?_
  rintro e w2 ⟨rfl, g2⟩
  have g3 := Grown.trans' g1 g2
  go_wp2_with fail
  refine (cmpText_any K1 K2 _ z1 z2).mono ?_
  rintro e w3 ⟨rfl, q, rfl⟩
  have e0 : w2.cell? ⟨w.heap.size + 1, 0, none⟩ = some (.int .i64 t1) := (boxes' g3).1 0
  have e1 : w2.cell? ⟨w.heap.size + 1, 1, none⟩ = some (.bool l1) := (boxes' g3).1 1
  have e2 : w2.cell? ⟨w.heap.size + 1, 2, none⟩ = some (.string f1) := (boxes' g3).1 2
  have e3 : w2.cell? ⟨w.heap.size + 1 + 1 + 1, 0, none⟩ = some (.int .i64 t2) := (boxes' g3).2 0
  have e4 : w2.cell? ⟨w.heap.size + 1 + 1 + 1, 1, none⟩ = some (.bool l2) := (boxes' g3).2 1
  have e5 : w2.cell? ⟨w.heap.size + 1 + 1 + 1, 2, none⟩ = some (.string f2) := (boxes' g3).2 2
  have g4 : Grown w w2 := Grown.trans' ((((((Grown.refl w).alloc _ _).alloc _ _).alloc _ _).alloc _ _)) g3
  clear g1 g2 g3 k1 k2
  go_wp2_with fail
  refine (zzcompare_any t1 t2 l1 l2 f1 f2 _).mono ?_
  rintro e w5 ⟨rfl, g5, _⟩
  have g6 : Grown w w5 := Grown.trans' g4 g5
  clear e0 e1 e2 e3 e4 e5 g4 g5
  go_wp2
  go_ret
  exact ⟨ret_same' _ _ HC.out, g6⟩
end Go.Proofs.Qxb6601031a
