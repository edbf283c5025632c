import Derived.Test.Qxb6601031aCompare
namespace Go.Proofs.Qxb6601031a
open Go.RowKit
open Go.Lib (compareBytes)

theorem bytes26_any (t1 t2 : Int) (l1 l2 : Bool) (f1 f2 : ByteArray) (w : World) (h1 : f1.size ≤ 65536) (h2 : f2.size ≤ 65536) :
    Calls Try.prog 26 #[.int .i64 t1, .bool l1, .string f1, .int .i64 t2, .bool l2, .string f2] w fun e w' => e = .returned (.bool true) ∧ w' = w := by
  go_enter Try.func26, Try.ntmps26
  go_wp2
  go_ret
  exact ⟨rfl, rfl⟩

/-- The two times' own variables, behind a call that keeps what was there. -/
theorem boxes {w w1 : World} {A B : Array Value} (h : Below ((((w.alloc (.cells A 32)).alloc (.cells A 32)).alloc (.cells B 32)).alloc (.cells B 32)).heap.size ((((w.alloc (.cells A 32)).alloc (.cells A 32)).alloc (.cells B 32)).alloc (.cells B 32)) w1) :
    (∀ o, w1.cell? ⟨w.heap.size + 1, o, none⟩ = A[o]?) ∧ (∀ o, w1.cell? ⟨w.heap.size + 1 + 1 + 1, o, none⟩ = B[o]?) := by
  constructor
  · intro o
    rw [h.cell (p := ⟨w.heap.size + 1, o, none⟩) (by simp), World.cell?_alloc_lt _ _ _ (by simp), World.cell?_alloc_lt _ _ _ (by simp)]
    have := World.cell?_alloc_new (w.alloc (.cells A 32)) A 32 o
    rwa [World.size_alloc] at this
  · intro o
    rw [h.cell (p := ⟨w.heap.size + 1 + 1 + 1, o, none⟩) (by simp)]
    have := World.cell?_alloc_new (((w.alloc (.cells A 32)).alloc (.cells A 32)).alloc (.cells B 32)) B 32 o
    rwa [World.size_alloc, World.size_alloc, World.size_alloc] at this

set_option maxHeartbeats 1600000 in
theorem anti_lt (t1 t2 : Int) (l1 l2 : Bool) (f1 f2 : ByteArray) (w : World) (h1 : f1.size ≤ 65536) (h2 : f2.size ≤ 65536)
    (HA : Hid (cmpT t1 l1 f1.data.toList t2 l2 f2.data.toList = -1)) (HB : Hid (cmpT t2 l2 f2.data.toList t1 l1 f1.data.toList = 1)) (hne : (t1 == t2) = false) :
    Calls Try.prog 9 #[.int .i64 t1, .bool l1, .string f1, .int .i64 t2, .bool l2, .string f2] w fun e w' => e = .returned (.bool true) ∧ Grown w w' := by
  go_enter Try.func9, Try.ntmps9
  go_wp2_with (first | (go_at_call 26; refine (bytes26_any t1 t2 l1 l2 f1 f2 _ h1 h2).mono ?_; rintro e w' ⟨rfl, hw'⟩; subst w') | (go_at_call 23; refine (maketime_any _ _ _ _).mono ?_; rintro e w' ⟨rfl, rfl⟩))
  refine (zzcompare_any t1 t2 l1 l2 f1 f2 _).mono ?_
  rintro e w1 ⟨rfl, hg1, hb1⟩
  rw [HA.out]
  have e0 : w1.cell? ⟨w.heap.size + 1, 0, none⟩ = some (.int .i64 t1) := (boxes hb1).1 0
  have e1 : w1.cell? ⟨w.heap.size + 1, 1, none⟩ = some (.bool l1) := (boxes hb1).1 1
  have e2 : w1.cell? ⟨w.heap.size + 1, 2, none⟩ = some (.string f1) := (boxes hb1).1 2
  have e3 : w1.cell? ⟨w.heap.size + 1 + 1 + 1, 0, none⟩ = some (.int .i64 t2) := (boxes hb1).2 0
  have e4 : w1.cell? ⟨w.heap.size + 1 + 1 + 1, 1, none⟩ = some (.bool l2) := (boxes hb1).2 1
  have e5 : w1.cell? ⟨w.heap.size + 1 + 1 + 1, 2, none⟩ = some (.string f2) := (boxes hb1).2 2
  have g1 : Grown w w1 := Grown.trans' ((((((Grown.refl w).alloc _ _).alloc _ _).alloc _ _).alloc _ _)) hg1
  clear hb1 hg1
  go_wp2_with fail
  refine (zzcompare_any t2 t1 l2 l1 f2 f1 _).mono ?_
  rintro e w2 ⟨rfl, hg2, _⟩
  rw [HB.out]
  have g2 : Grown w w2 := Grown.trans' g1 hg2
  clear e0 e1 e2 e3 e4 e5 g1 hg2
  go_wp2
  go_ret
  exact ⟨rfl, g2⟩

set_option maxHeartbeats 1600000 in
theorem anti_gt (t1 t2 : Int) (l1 l2 : Bool) (f1 f2 : ByteArray) (w : World) (h1 : f1.size ≤ 65536) (h2 : f2.size ≤ 65536)
    (HA : Hid (cmpT t1 l1 f1.data.toList t2 l2 f2.data.toList = 1)) (HB : Hid (cmpT t2 l2 f2.data.toList t1 l1 f1.data.toList = -1)) (hne : (t1 == t2) = false) :
    Calls Try.prog 9 #[.int .i64 t1, .bool l1, .string f1, .int .i64 t2, .bool l2, .string f2] w fun e w' => e = .returned (.bool true) ∧ Grown w w' := by
  go_enter Try.func9, Try.ntmps9
  go_wp2_with (first | (go_at_call 26; refine (bytes26_any t1 t2 l1 l2 f1 f2 _ h1 h2).mono ?_; rintro e w' ⟨rfl, hw'⟩; subst w') | (go_at_call 23; refine (maketime_any _ _ _ _).mono ?_; rintro e w' ⟨rfl, rfl⟩))
  refine (zzcompare_any t1 t2 l1 l2 f1 f2 _).mono ?_
  rintro e w1 ⟨rfl, hg1, hb1⟩
  rw [HA.out]
  have e0 : w1.cell? ⟨w.heap.size + 1, 0, none⟩ = some (.int .i64 t1) := (boxes hb1).1 0
  have e1 : w1.cell? ⟨w.heap.size + 1, 1, none⟩ = some (.bool l1) := (boxes hb1).1 1
  have e2 : w1.cell? ⟨w.heap.size + 1, 2, none⟩ = some (.string f1) := (boxes hb1).1 2
  have e3 : w1.cell? ⟨w.heap.size + 1 + 1 + 1, 0, none⟩ = some (.int .i64 t2) := (boxes hb1).2 0
  have e4 : w1.cell? ⟨w.heap.size + 1 + 1 + 1, 1, none⟩ = some (.bool l2) := (boxes hb1).2 1
  have e5 : w1.cell? ⟨w.heap.size + 1 + 1 + 1, 2, none⟩ = some (.string f2) := (boxes hb1).2 2
  have g1 : Grown w w1 := Grown.trans' ((((((Grown.refl w).alloc _ _).alloc _ _).alloc _ _).alloc _ _)) hg1
  clear hb1 hg1
  go_wp2_with fail
  refine (zzcompare_any t2 t1 l2 l1 f2 f1 _).mono ?_
  rintro e w2 ⟨rfl, hg2, _⟩
  rw [HB.out]
  have g2 : Grown w w2 := Grown.trans' g1 hg2
  clear e0 e1 e2 e3 e4 e5 g1 hg2
  go_wp2
  go_ret
  exact ⟨rfl, g2⟩

set_option maxHeartbeats 1600000 in
theorem anti_ltl (t1 : Int) (l1 l2 : Bool) (f1 f2 : ByteArray) (w : World) (h1 : f1.size ≤ 65536) (h2 : f2.size ≤ 65536)
    (HA : Hid (cmpT t1 l1 f1.data.toList t1 l2 f2.data.toList = -1)) (HB : Hid (cmpT t1 l2 f2.data.toList t1 l1 f1.data.toList = 1)) (hne : (l1 == l2) = false) :
    Calls Try.prog 9 #[.int .i64 t1, .bool l1, .string f1, .int .i64 t1, .bool l2, .string f2] w fun e w' => e = .returned (.bool true) ∧ Grown w w' := by
  go_enter Try.func9, Try.ntmps9
  go_wp2_with (first | (go_at_call 26; refine (bytes26_any t1 t1 l1 l2 f1 f2 _ h1 h2).mono ?_; rintro e w' ⟨rfl, hw'⟩; subst w') | (go_at_call 23; refine (maketime_any _ _ _ _).mono ?_; rintro e w' ⟨rfl, rfl⟩))
  refine (zzcompare_any t1 t1 l1 l2 f1 f2 _).mono ?_
  rintro e w1 ⟨rfl, hg1, hb1⟩
  rw [HA.out]
  have e0 : w1.cell? ⟨w.heap.size + 1, 0, none⟩ = some (.int .i64 t1) := (boxes hb1).1 0
  have e1 : w1.cell? ⟨w.heap.size + 1, 1, none⟩ = some (.bool l1) := (boxes hb1).1 1
  have e2 : w1.cell? ⟨w.heap.size + 1, 2, none⟩ = some (.string f1) := (boxes hb1).1 2
  have e3 : w1.cell? ⟨w.heap.size + 1 + 1 + 1, 0, none⟩ = some (.int .i64 t1) := (boxes hb1).2 0
  have e4 : w1.cell? ⟨w.heap.size + 1 + 1 + 1, 1, none⟩ = some (.bool l2) := (boxes hb1).2 1
  have e5 : w1.cell? ⟨w.heap.size + 1 + 1 + 1, 2, none⟩ = some (.string f2) := (boxes hb1).2 2
  have g1 : Grown w w1 := Grown.trans' ((((((Grown.refl w).alloc _ _).alloc _ _).alloc _ _).alloc _ _)) hg1
  clear hb1 hg1
  go_wp2_with fail
  refine (zzcompare_any t1 t1 l2 l1 f2 f1 _).mono ?_
  rintro e w2 ⟨rfl, hg2, _⟩
  rw [HB.out]
  have g2 : Grown w w2 := Grown.trans' g1 hg2
  clear e0 e1 e2 e3 e4 e5 g1 hg2
  go_wp2
  go_ret
  exact ⟨rfl, g2⟩

set_option maxHeartbeats 1600000 in
theorem anti_gtl (t1 : Int) (l1 l2 : Bool) (f1 f2 : ByteArray) (w : World) (h1 : f1.size ≤ 65536) (h2 : f2.size ≤ 65536)
    (HA : Hid (cmpT t1 l1 f1.data.toList t1 l2 f2.data.toList = 1)) (HB : Hid (cmpT t1 l2 f2.data.toList t1 l1 f1.data.toList = -1)) (hne : (l1 == l2) = false) :
    Calls Try.prog 9 #[.int .i64 t1, .bool l1, .string f1, .int .i64 t1, .bool l2, .string f2] w fun e w' => e = .returned (.bool true) ∧ Grown w w' := by
  go_enter Try.func9, Try.ntmps9
  go_wp2_with (first | (go_at_call 26; refine (bytes26_any t1 t1 l1 l2 f1 f2 _ h1 h2).mono ?_; rintro e w' ⟨rfl, hw'⟩; subst w') | (go_at_call 23; refine (maketime_any _ _ _ _).mono ?_; rintro e w' ⟨rfl, rfl⟩))
  refine (zzcompare_any t1 t1 l1 l2 f1 f2 _).mono ?_
  rintro e w1 ⟨rfl, hg1, hb1⟩
  rw [HA.out]
  have e0 : w1.cell? ⟨w.heap.size + 1, 0, none⟩ = some (.int .i64 t1) := (boxes hb1).1 0
  have e1 : w1.cell? ⟨w.heap.size + 1, 1, none⟩ = some (.bool l1) := (boxes hb1).1 1
  have e2 : w1.cell? ⟨w.heap.size + 1, 2, none⟩ = some (.string f1) := (boxes hb1).1 2
  have e3 : w1.cell? ⟨w.heap.size + 1 + 1 + 1, 0, none⟩ = some (.int .i64 t1) := (boxes hb1).2 0
  have e4 : w1.cell? ⟨w.heap.size + 1 + 1 + 1, 1, none⟩ = some (.bool l2) := (boxes hb1).2 1
  have e5 : w1.cell? ⟨w.heap.size + 1 + 1 + 1, 2, none⟩ = some (.string f2) := (boxes hb1).2 2
  have g1 : Grown w w1 := Grown.trans' ((((((Grown.refl w).alloc _ _).alloc _ _).alloc _ _).alloc _ _)) hg1
  clear hb1 hg1
  go_wp2_with fail
  refine (zzcompare_any t1 t1 l2 l1 f2 f1 _).mono ?_
  rintro e w2 ⟨rfl, hg2, _⟩
  rw [HB.out]
  have g2 : Grown w w2 := Grown.trans' g1 hg2
  clear e0 e1 e2 e3 e4 e5 g1 hg2
  go_wp2
  go_ret
  exact ⟨rfl, g2⟩

set_option maxHeartbeats 1600000 in
theorem anti_ltf (t1 : Int) (l1 : Bool) (f1 f2 : ByteArray) (w : World) (h1 : f1.size ≤ 65536) (h2 : f2.size ≤ 65536)
    (HA : Hid (cmpT t1 l1 f1.data.toList t1 l1 f2.data.toList = -1)) (HB : Hid (cmpT t1 l1 f2.data.toList t1 l1 f1.data.toList = 1)) (hne : (f1.toList == f2.toList) = false) :
    Calls Try.prog 9 #[.int .i64 t1, .bool l1, .string f1, .int .i64 t1, .bool l1, .string f2] w fun e w' => e = .returned (.bool true) ∧ Grown w w' := by
  go_enter Try.func9, Try.ntmps9
  go_wp2_with (first | (go_at_call 26; refine (bytes26_any t1 t1 l1 l1 f1 f2 _ h1 h2).mono ?_; rintro e w' ⟨rfl, hw'⟩; subst w') | (go_at_call 23; refine (maketime_any _ _ _ _).mono ?_; rintro e w' ⟨rfl, rfl⟩))
  refine (zzcompare_any t1 t1 l1 l1 f1 f2 _).mono ?_
  rintro e w1 ⟨rfl, hg1, hb1⟩
  rw [HA.out]
  have e0 : w1.cell? ⟨w.heap.size + 1, 0, none⟩ = some (.int .i64 t1) := (boxes hb1).1 0
  have e1 : w1.cell? ⟨w.heap.size + 1, 1, none⟩ = some (.bool l1) := (boxes hb1).1 1
  have e2 : w1.cell? ⟨w.heap.size + 1, 2, none⟩ = some (.string f1) := (boxes hb1).1 2
  have e3 : w1.cell? ⟨w.heap.size + 1 + 1 + 1, 0, none⟩ = some (.int .i64 t1) := (boxes hb1).2 0
  have e4 : w1.cell? ⟨w.heap.size + 1 + 1 + 1, 1, none⟩ = some (.bool l1) := (boxes hb1).2 1
  have e5 : w1.cell? ⟨w.heap.size + 1 + 1 + 1, 2, none⟩ = some (.string f2) := (boxes hb1).2 2
  have g1 : Grown w w1 := Grown.trans' ((((((Grown.refl w).alloc _ _).alloc _ _).alloc _ _).alloc _ _)) hg1
  clear hb1 hg1
  go_wp2_with fail
  refine (zzcompare_any t1 t1 l1 l1 f2 f1 _).mono ?_
  rintro e w2 ⟨rfl, hg2, _⟩
  rw [HB.out]
  have g2 : Grown w w2 := Grown.trans' g1 hg2
  clear e0 e1 e2 e3 e4 e5 g1 hg2
  go_wp2
  go_ret
  exact ⟨rfl, g2⟩

set_option maxHeartbeats 1600000 in
theorem anti_gtf (t1 : Int) (l1 : Bool) (f1 f2 : ByteArray) (w : World) (h1 : f1.size ≤ 65536) (h2 : f2.size ≤ 65536)
    (HA : Hid (cmpT t1 l1 f1.data.toList t1 l1 f2.data.toList = 1)) (HB : Hid (cmpT t1 l1 f2.data.toList t1 l1 f1.data.toList = -1)) (hne : (f1.toList == f2.toList) = false) :
    Calls Try.prog 9 #[.int .i64 t1, .bool l1, .string f1, .int .i64 t1, .bool l1, .string f2] w fun e w' => e = .returned (.bool true) ∧ Grown w w' := by
  go_enter Try.func9, Try.ntmps9
  go_wp2_with (first | (go_at_call 26; refine (bytes26_any t1 t1 l1 l1 f1 f2 _ h1 h2).mono ?_; rintro e w' ⟨rfl, hw'⟩; subst w') | (go_at_call 23; refine (maketime_any _ _ _ _).mono ?_; rintro e w' ⟨rfl, rfl⟩))
  refine (zzcompare_any t1 t1 l1 l1 f1 f2 _).mono ?_
  rintro e w1 ⟨rfl, hg1, hb1⟩
  rw [HA.out]
  have e0 : w1.cell? ⟨w.heap.size + 1, 0, none⟩ = some (.int .i64 t1) := (boxes hb1).1 0
  have e1 : w1.cell? ⟨w.heap.size + 1, 1, none⟩ = some (.bool l1) := (boxes hb1).1 1
  have e2 : w1.cell? ⟨w.heap.size + 1, 2, none⟩ = some (.string f1) := (boxes hb1).1 2
  have e3 : w1.cell? ⟨w.heap.size + 1 + 1 + 1, 0, none⟩ = some (.int .i64 t1) := (boxes hb1).2 0
  have e4 : w1.cell? ⟨w.heap.size + 1 + 1 + 1, 1, none⟩ = some (.bool l1) := (boxes hb1).2 1
  have e5 : w1.cell? ⟨w.heap.size + 1 + 1 + 1, 2, none⟩ = some (.string f2) := (boxes hb1).2 2
  have g1 : Grown w w1 := Grown.trans' ((((((Grown.refl w).alloc _ _).alloc _ _).alloc _ _).alloc _ _)) hg1
  clear hb1 hg1
  go_wp2_with fail
  refine (zzcompare_any t1 t1 l1 l1 f2 f1 _).mono ?_
  rintro e w2 ⟨rfl, hg2, _⟩
  rw [HB.out]
  have g2 : Grown w w2 := Grown.trans' g1 hg2
  clear e0 e1 e2 e3 e4 e5 g1 hg2
  go_wp2
  go_ret
  exact ⟨rfl, g2⟩

set_option maxHeartbeats 1600000 in
theorem anti_eq (t1 : Int) (l1 : Bool) (f1 : ByteArray) (w : World) (h1 : f1.size ≤ 65536)
    (HA : Hid (cmpT t1 l1 f1.data.toList t1 l1 f1.data.toList = 0)) (HB : Hid (cmpT t1 l1 f1.data.toList t1 l1 f1.data.toList = 0))  :
    Calls Try.prog 9 #[.int .i64 t1, .bool l1, .string f1, .int .i64 t1, .bool l1, .string f1] w fun e w' => e = .returned (.bool true) ∧ Grown w w' := by
  go_enter Try.func9, Try.ntmps9
  go_wp2_with (first | (go_at_call 26; refine (bytes26_any t1 t1 l1 l1 f1 f1 _ h1 h1).mono ?_; rintro e w' ⟨rfl, hw'⟩; subst w') | (go_at_call 23; refine (maketime_any _ _ _ _).mono ?_; rintro e w' ⟨rfl, rfl⟩))
  refine (zzcompare_any t1 t1 l1 l1 f1 f1 _).mono ?_
  rintro e w1 ⟨rfl, hg1, hb1⟩
  rw [HA.out]
  have e0 : w1.cell? ⟨w.heap.size + 1, 0, none⟩ = some (.int .i64 t1) := (boxes hb1).1 0
  have e1 : w1.cell? ⟨w.heap.size + 1, 1, none⟩ = some (.bool l1) := (boxes hb1).1 1
  have e2 : w1.cell? ⟨w.heap.size + 1, 2, none⟩ = some (.string f1) := (boxes hb1).1 2
  have e3 : w1.cell? ⟨w.heap.size + 1 + 1 + 1, 0, none⟩ = some (.int .i64 t1) := (boxes hb1).2 0
  have e4 : w1.cell? ⟨w.heap.size + 1 + 1 + 1, 1, none⟩ = some (.bool l1) := (boxes hb1).2 1
  have e5 : w1.cell? ⟨w.heap.size + 1 + 1 + 1, 2, none⟩ = some (.string f1) := (boxes hb1).2 2
  have g1 : Grown w w1 := Grown.trans' ((((((Grown.refl w).alloc _ _).alloc _ _).alloc _ _).alloc _ _)) hg1
  clear hb1 hg1
  go_wp2_with fail
  refine (zzcompare_any t1 t1 l1 l1 f1 f1 _).mono ?_
  rintro e w2 ⟨rfl, hg2, _⟩
  rw [HB.out]
  have g2 : Grown w w2 := Grown.trans' g1 hg2
  clear e0 e1 e2 e3 e4 e5 g1 hg2
  go_wp2
  go_ret
  exact ⟨rfl, g2⟩

theorem cmpT_lt {t1 t2 : Int} (h : t1 < t2) (l1 l2 : Bool) (f1 f2 : List UInt8) : cmpT t1 l1 f1 t2 l2 f2 = -1 ∧ cmpT t2 l2 f2 t1 l1 f1 = 1 :=
  ⟨by rw [cmpT, if_pos h], by rw [cmpT, if_neg (by omega), if_pos h]⟩
theorem cmpT_same (t : Int) (l : Bool) (f1 f2 : List UInt8) : cmpT t l f1 t l f2 = compareBytes f1 f2 := by
  rw [cmpT, if_neg (by omega), if_neg (by omega), if_pos rfl]
theorem cmpT_leap (t : Int) (f1 f2 : List UInt8) : cmpT t false f1 t true f2 = -1 ∧ cmpT t true f2 t false f1 = 1 :=
  ⟨by rw [cmpT, if_neg (by omega), if_neg (by omega), if_neg (by decide), if_pos rfl], by rw [cmpT, if_neg (by omega), if_neg (by omega), if_neg (by decide), if_neg (by decide)]⟩
theorem toList_ne {f1 f2 : ByteArray} (h : f1.data.toList ≠ f2.data.toList) : (f1.toList == f2.toList) = false := by
  rw [ByteArray.toList_eq, ByteArray.toList_eq]
  simpa using h

/-- The law, whatever the two times. -/
theorem anti_main (t1 t2 : Int) (l1 l2 : Bool) (f1 f2 : ByteArray) (w : World) (h1 : f1.size ≤ 65536) (h2 : f2.size ≤ 65536) :
    Calls Try.prog 9 #[.int .i64 t1, .bool l1, .string f1, .int .i64 t2, .bool l2, .string f2] w fun e w' => e = .returned (.bool true) ∧ Grown w w' := by
  by_cases c1 : t1 < t2
  · exact anti_lt t1 t2 l1 l2 f1 f2 w h1 h2 (cmpT_lt c1 ..).1 (cmpT_lt c1 ..).2 (by simp; omega)
  by_cases c2 : t2 < t1
  · exact anti_gt t1 t2 l1 l2 f1 f2 w h1 h2 (cmpT_lt c2 ..).2 (cmpT_lt c2 ..).1 (by simp; omega)
  obtain rfl : t1 = t2 := by omega
  by_cases c3 : l1 = l2
  · subst c3
    have hn := cmp_neg f1.data.toList f2.data.toList
    rcases cmp_three f1.data.toList f2.data.toList with h | ⟨h, he⟩ | h
    · rw [h] at hn
      refine anti_ltf t1 l1 f1 f2 w h1 h2 ((cmpT_same ..).trans h) ((cmpT_same ..).trans hn) (toList_ne fun e => ?_)
      rw [e, cmp_self] at h
      exact absurd h (by decide)
    · have e : f1 = f2 := ByteArray.ext (Array.toList_inj.1 he)
      subst e
      exact anti_eq t1 l1 f1 w h1 ((cmpT_same ..).trans h) ((cmpT_same ..).trans h)
    · rw [h] at hn
      refine anti_gtf t1 l1 f1 f2 w h1 h2 ((cmpT_same ..).trans h) ((cmpT_same ..).trans hn) (toList_ne fun e => ?_)
      rw [e, cmp_self] at h
      exact absurd h (by decide)
  · cases l1 <;> cases l2
    · exact absurd rfl c3
    · exact anti_ltl t1 false true f1 f2 w h1 h2 (cmpT_leap ..).1 (cmpT_leap ..).2 rfl
    · exact anti_gtl t1 true false f1 f2 w h1 h2 (cmpT_leap ..).2 (cmpT_leap ..).1 rfl
    · exact absurd rfl c3
end Go.Proofs.Qxb6601031a
