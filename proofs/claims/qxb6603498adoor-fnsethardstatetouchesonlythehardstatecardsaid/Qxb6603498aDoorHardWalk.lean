import Derived.Test.Qxb6603498aDoorHard
import Derived.Deep.RegionWith
namespace Go.Proofs.Qxb6603498aDoor
open Go.RowKit

set_option maxHeartbeats 1600000 in
theorem hard_pos (p0 p1 p2 t v m c ct : Int) (a : Option Addr) (n cap : Nat) (ts : List Int) (w : World) (u0 u1 : TypeId) (x0 x1 : Value) (g0 : w.cell? ⟨0, 0, none⟩ = some (.iface u0 x0)) (g1 : w.cell? ⟨1, 0, none⟩ = some (.iface u1 x1)) (hw : 2 ≤ w.heap.size)
    (hc0 : 0 < c) (hc1 : c ≤ 18446744073709420543) (hn : n ≤ 65536) (hi : Ints w a n ts) :
    Calls Tryd.prog 3 #[.int .u64 p0, .int .u64 p1, .int .u64 p2, .int .u64 t, .int .u64 v, .int .u64 m, .int .u64 c, .int .u64 ct, .slice a n cap] w fun e w' => e = .returned (.bool true) ∧ Below w.heap.size w w' := by
  obtain rfl : ts.length = n := hi.1
  have HI : Hid (Ints w a ts.length ts) := hi
  clear hi
  have hmk1 := make_u64 (c + ts.length + 1 - (c - 1) + 1) (ts.length + 3) (by omega) (by omega)
  have hmk2 := make_bool (c + ts.length + 1 - (c - 1) + 1) (ts.length + 3) (by omega) (by omega)
  go_enter Tryd.func3, Tryd.ntmps3
  go_wp2_with (go_at_call 5; refine (bytes3_any _ _ _ _ _ _ _ _ _ _ _ _ hn).mono ?_; rintro e w' ⟨rfl, hw'⟩; subst w')
  refine (sorted_any ct a ts.length cap ts _ hn HI.out).mono ?_
  rintro e w' ⟨⟨r, rfl⟩, hw'⟩
  subst w'
  cases r
  · go_wp2
    go_ret
    exact ⟨rfl, Below.refl _ _⟩
  go_wp2_with fail
  refine (clone_any a ts.length cap ts _ hn HI.out).mono ?_
  rintro e w1 ⟨a1, rfl, hb1, hi1⟩
  have HI1 : Hid (Ints w1 a1 ts.length ts) := hi1
  clear hi1
  have hs1 := hb1.size
  have k0 : w1.cell? ⟨0, 0, none⟩ = some (.iface u0 x0) := (hb1.cell (by simp; omega)).trans g0
  have k1 : w1.cell? ⟨1, 0, none⟩ = some (.iface u1 x1) := (hb1.cell (by simp; omega)).trans g1
  clear g0 g1
  go_wp2_with fail
  refine (storage_any p0 p1 p2 c ct a1 ts.length ts.length ts _ (by omega) hn (by omega) hc1 HI1.out).mono ?_
  rintro e w2 ⟨b, sa, rfl, hbb, hb2, S⟩
  have hbel : Below w.heap.size w w2 := hb1.trans (hb2.mono hs1)
  have g0 : w2.cell? ⟨0, 0, none⟩ = some (.iface u0 x0) := (hb2.cell (by simp; omega)).trans k0
  have g1 : w2.cell? ⟨1, 0, none⟩ = some (.iface u1 x1) := (hb2.cell (by simp; omega)).trans k1
  have hwb : w.heap.size ≤ b := by omega
  clear hb1 hs1 k0 k1 hb2 HI1 HI hbb
  go_wp2_with fail
  go_loopw [25, 26, 27] (fun i t e wr => ∃ k : Nat, k ≤ ts.length + 3 ∧ i = .int .i64 k ∧ Kept w b w2.heap.size p0 p1 p2 c ct (c - 1) sa ts (ts.length + 3) u0 u1 x0 x1 k wr) (fun i _ _ _ => ts.length + 3 - (intOf i).toNat)
  case atStart => exact ⟨0, Nat.zero_le _, rfl, Kept.start hbel S hwb g0 g1⟩
  case round =>
    clear hbel S g0 g1
    obtain ⟨k, hk, rfl, hkp⟩ := hrel
    have HK : Hid (Kept w b w2.heap.size p0 p1 p2 c ct (c - 1) sa ts (ts.length + 3) u0 u1 x0 x1 k wr) := hkp
    clear hkp
    by_cases hlt : k < ts.length + 3
    · go_wp2_with fail
      have dT := HK.out.rT.cell hlt
      have dE := HK.out.rE.cell hlt
      have fT := HK.out.rT.frozen k
      have fE := HK.out.rE.frozen k
      refine (ask_any HK.out.st (c - 1 + k) u0 u1 x0 x1 HK.out.g0 HK.out.g1 (by omega) hc1 hn).mono ?_
      rintro e w3 ⟨⟨hB, rfl⟩ | ⟨u, x, hB, rfl⟩, q, rfl⟩
      · have HN : Hid (Kept w b w2.heap.size p0 p1 p2 c ct (c - 1) sa ts (ts.length + 3) u0 u1 x0 x1 (k + 1) _) := HK.out.step false hB
        clear hB
        go_wp2
        go_roundw
        case rel => exact ⟨k + 1, by omega, by go_num, HN.out.drewN q⟩
        case measure => simp [intOf]; omega
      · have HN : Hid (Kept w b w2.heap.size p0 p1 p2 c ct (c - 1) sa ts (ts.length + 3) u0 u1 x0 x1 (k + 1) _) := HK.out.step true hB
        clear hB
        go_wp2
        go_roundw
        case rel => exact ⟨k + 1, by omega, by go_num, HN.out.drewN q⟩
        case measure => simp [intOf]; omega
    · have ek : k = ts.length + 3 := by omega
      subst ek
      go_wp2_with fail
      refine (set_any (HK.out.st.alloc _) t v m).mono ?_
      rintro e w5 ⟨rfl, S5, A5⟩
      have K5 : Kept w b w2.heap.size t v m c ct (c - 1) sa ts (ts.length + 3) u0 u1 x0 x1 (ts.length + 3) w5 := (HK.out.alloc _).turned S5 A5
      have hne : wr.heap.size ≠ b := by have := HK.out.st.row.lt; omega
      have hbk := A5.oth wr.heap.size (by simp) hne
      have e0 : w5.cell? ⟨wr.heap.size, 0, none⟩ = some (.int .u64 t) := (World.cell?_of_block hbk).trans (by simp)
      have e1 : w5.cell? ⟨wr.heap.size, 1, none⟩ = some (.int .u64 v) := (World.cell?_of_block hbk).trans (by simp)
      have e2 : w5.cell? ⟨wr.heap.size, 2, none⟩ = some (.int .u64 m) := (World.cell?_of_block hbk).trans (by simp)
      have hbs : wr.heap.size < w5.heap.size := by have := A5.bel.size; simp at this; omega
      have HK5 : Hid (Kept w b w2.heap.size t v m c ct (c - 1) sa ts (ts.length + 3) u0 u1 x0 x1 (ts.length + 3) w5) := K5
      have s2 : w5.cell? ⟨b, 2, none⟩ = some (.int .u64 t) := S5.row.cell (i := 2) (by omega)
      have s3 : w5.cell? ⟨b, 3, none⟩ = some (.int .u64 v) := S5.row.cell (i := 3) (by omega)
      have s4 : w5.cell? ⟨b, 4, none⟩ = some (.int .u64 m) := S5.row.cell (i := 4) (by omega)
      have hb5 := S5.row.lt
      clear K5 A5 S5 HK hbk
      have hnq := neq30 t v m
      go_wp2_with fail
      go_region_with (go_at_call 11; refine (zzhard_any b t v m _ (by simpa using s2) (by simpa using s3) (by simpa using s4) (by simpa using hb5)).mono ?_; rintro e w6 ⟨rfl, rfl⟩)
      all_goals
        clear s2 s3 s4 e0 e1 e2 hnq hmk1 hmk2
        go_wp2_with fail
        go_loopw [29, 30, 31] (fun i t' e' wx => ∃ k : Nat, k ≤ ts.length + 3 ∧ i = .int .i64 k ∧ Kept w b w2.heap.size t v m c ct (c - 1) sa ts (ts.length + 3) u0 u1 x0 x1 (ts.length + 3) wx) (fun i _ _ _ => ts.length + 3 - (intOf i).toNat)
        case atStart => exact ⟨0, Nat.zero_le _, rfl, (HK5.out.alloc _).drewN 1⟩
        case round =>
          obtain ⟨k, hk, rfl, hkp⟩ := hrel
          have HX : Hid (Kept w b w2.heap.size t v m c ct (c - 1) sa ts (ts.length + 3) u0 u1 x0 x1 (ts.length + 3) wr) := hkp
          clear hkp
          by_cases hlt : k < ts.length + 3
          · have dT : wr.cell? ⟨w2.heap.size, k, none⟩ = some (.int .u64 (ansT c ct ts (c - 1 + k))) := by rw [HX.out.rT.cell hlt, if_pos hlt]
            have dE : wr.cell? ⟨w2.heap.size + 1, k, none⟩ = some (.bool (ansB c ts.length (c - 1 + k))) := by rw [HX.out.rE.cell hlt, if_pos hlt]
            go_wp2_with fail
            refine (ask_any HX.out.st (c - 1 + k) u0 u1 x0 x1 HX.out.g0 HX.out.g1 (by omega) hc1 hn).mono ?_
            rintro e w7 ⟨⟨hB, rfl⟩ | ⟨u, x, hB, rfl⟩, q, rfl⟩
            all_goals
              rw [hB] at dE
              clear hB
              go_wp2
              go_quiet (fail)
              go_wp2
              go_roundw
              case rel => exact ⟨k + 1, by omega, by go_num, HX.out.drewN _⟩
              case measure => simp [intOf]; omega
          · go_wp2
            go_ret
            exact ⟨rfl, HX.out.bel⟩

set_option maxHeartbeats 1600000 in
theorem hard_zero (p0 p1 p2 t v m c ct : Int) (a : Option Addr) (n cap : Nat) (ts : List Int) (w : World) (u0 u1 : TypeId) (x0 x1 : Value) (g0 : w.cell? ⟨0, 0, none⟩ = some (.iface u0 x0)) (g1 : w.cell? ⟨1, 0, none⟩ = some (.iface u1 x1)) (hw : 2 ≤ w.heap.size)
    (hc0 : 0 ≤ c) (hcz : ¬ 0 < c) (hc1 : c ≤ 18446744073709420543) (hn : n ≤ 65536) (hi : Ints w a n ts) :
    Calls Tryd.prog 3 #[.int .u64 p0, .int .u64 p1, .int .u64 p2, .int .u64 t, .int .u64 v, .int .u64 m, .int .u64 c, .int .u64 ct, .slice a n cap] w fun e w' => e = .returned (.bool true) ∧ Below w.heap.size w w' := by
  obtain rfl : ts.length = n := hi.1
  have HI : Hid (Ints w a ts.length ts) := hi
  clear hi
  have hmk1 := make_u64 (c + ts.length + 1 - c + 1) (ts.length + 2) (by omega) (by omega)
  have hmk2 := make_bool (c + ts.length + 1 - c + 1) (ts.length + 2) (by omega) (by omega)
  go_enter Tryd.func3, Tryd.ntmps3
  go_wp2_with (go_at_call 5; refine (bytes3_any _ _ _ _ _ _ _ _ _ _ _ _ hn).mono ?_; rintro e w' ⟨rfl, hw'⟩; subst w')
  refine (sorted_any ct a ts.length cap ts _ hn HI.out).mono ?_
  rintro e w' ⟨⟨r, rfl⟩, hw'⟩
  subst w'
  cases r
  · go_wp2
    go_ret
    exact ⟨rfl, Below.refl _ _⟩
  go_wp2_with fail
  refine (clone_any a ts.length cap ts _ hn HI.out).mono ?_
  rintro e w1 ⟨a1, rfl, hb1, hi1⟩
  have HI1 : Hid (Ints w1 a1 ts.length ts) := hi1
  clear hi1
  have hs1 := hb1.size
  have k0 : w1.cell? ⟨0, 0, none⟩ = some (.iface u0 x0) := (hb1.cell (by simp; omega)).trans g0
  have k1 : w1.cell? ⟨1, 0, none⟩ = some (.iface u1 x1) := (hb1.cell (by simp; omega)).trans g1
  clear g0 g1
  go_wp2_with fail
  refine (storage_any p0 p1 p2 c ct a1 ts.length ts.length ts _ (by omega) hn (by omega) hc1 HI1.out).mono ?_
  rintro e w2 ⟨b, sa, rfl, hbb, hb2, S⟩
  have hbel : Below w.heap.size w w2 := hb1.trans (hb2.mono hs1)
  have g0 : w2.cell? ⟨0, 0, none⟩ = some (.iface u0 x0) := (hb2.cell (by simp; omega)).trans k0
  have g1 : w2.cell? ⟨1, 0, none⟩ = some (.iface u1 x1) := (hb2.cell (by simp; omega)).trans k1
  have hwb : w.heap.size ≤ b := by omega
  clear hb1 hs1 k0 k1 hb2 HI1 HI hbb
  go_wp2_with fail
  go_loopw [25, 26, 27] (fun i t e wr => ∃ k : Nat, k ≤ ts.length + 2 ∧ i = .int .i64 k ∧ Kept w b w2.heap.size p0 p1 p2 c ct (c) sa ts (ts.length + 2) u0 u1 x0 x1 k wr) (fun i _ _ _ => ts.length + 2 - (intOf i).toNat)
  case atStart => exact ⟨0, Nat.zero_le _, rfl, Kept.start hbel S hwb g0 g1⟩
  case round =>
    clear hbel S g0 g1
    obtain ⟨k, hk, rfl, hkp⟩ := hrel
    have HK : Hid (Kept w b w2.heap.size p0 p1 p2 c ct (c) sa ts (ts.length + 2) u0 u1 x0 x1 k wr) := hkp
    clear hkp
    by_cases hlt : k < ts.length + 2
    · go_wp2_with fail
      have dT := HK.out.rT.cell hlt
      have dE := HK.out.rE.cell hlt
      have fT := HK.out.rT.frozen k
      have fE := HK.out.rE.frozen k
      refine (ask_any HK.out.st (c + k) u0 u1 x0 x1 HK.out.g0 HK.out.g1 (by omega) hc1 hn).mono ?_
      rintro e w3 ⟨⟨hB, rfl⟩ | ⟨u, x, hB, rfl⟩, q, rfl⟩
      · have HN : Hid (Kept w b w2.heap.size p0 p1 p2 c ct (c) sa ts (ts.length + 2) u0 u1 x0 x1 (k + 1) _) := HK.out.step false hB
        clear hB
        go_wp2
        go_roundw
        case rel => exact ⟨k + 1, by omega, by go_num, HN.out.drewN q⟩
        case measure => simp [intOf]; omega
      · have HN : Hid (Kept w b w2.heap.size p0 p1 p2 c ct (c) sa ts (ts.length + 2) u0 u1 x0 x1 (k + 1) _) := HK.out.step true hB
        clear hB
        go_wp2
        go_roundw
        case rel => exact ⟨k + 1, by omega, by go_num, HN.out.drewN q⟩
        case measure => simp [intOf]; omega
    · have ek : k = ts.length + 2 := by omega
      subst ek
      go_wp2_with fail
      refine (set_any (HK.out.st.alloc _) t v m).mono ?_
      rintro e w5 ⟨rfl, S5, A5⟩
      have K5 : Kept w b w2.heap.size t v m c ct (c) sa ts (ts.length + 2) u0 u1 x0 x1 (ts.length + 2) w5 := (HK.out.alloc _).turned S5 A5
      have hne : wr.heap.size ≠ b := by have := HK.out.st.row.lt; omega
      have hbk := A5.oth wr.heap.size (by simp) hne
      have e0 : w5.cell? ⟨wr.heap.size, 0, none⟩ = some (.int .u64 t) := (World.cell?_of_block hbk).trans (by simp)
      have e1 : w5.cell? ⟨wr.heap.size, 1, none⟩ = some (.int .u64 v) := (World.cell?_of_block hbk).trans (by simp)
      have e2 : w5.cell? ⟨wr.heap.size, 2, none⟩ = some (.int .u64 m) := (World.cell?_of_block hbk).trans (by simp)
      have hbs : wr.heap.size < w5.heap.size := by have := A5.bel.size; simp at this; omega
      have HK5 : Hid (Kept w b w2.heap.size t v m c ct (c) sa ts (ts.length + 2) u0 u1 x0 x1 (ts.length + 2) w5) := K5
      have s2 : w5.cell? ⟨b, 2, none⟩ = some (.int .u64 t) := S5.row.cell (i := 2) (by omega)
      have s3 : w5.cell? ⟨b, 3, none⟩ = some (.int .u64 v) := S5.row.cell (i := 3) (by omega)
      have s4 : w5.cell? ⟨b, 4, none⟩ = some (.int .u64 m) := S5.row.cell (i := 4) (by omega)
      have hb5 := S5.row.lt
      clear K5 A5 S5 HK hbk
      have hnq := neq30 t v m
      go_wp2_with fail
      go_region_with (go_at_call 11; refine (zzhard_any b t v m _ (by simpa using s2) (by simpa using s3) (by simpa using s4) (by simpa using hb5)).mono ?_; rintro e w6 ⟨rfl, rfl⟩)
      all_goals
        clear s2 s3 s4 e0 e1 e2 hnq hmk1 hmk2
        go_wp2_with fail
        go_loopw [29, 30, 31] (fun i t' e' wx => ∃ k : Nat, k ≤ ts.length + 2 ∧ i = .int .i64 k ∧ Kept w b w2.heap.size t v m c ct (c) sa ts (ts.length + 2) u0 u1 x0 x1 (ts.length + 2) wx) (fun i _ _ _ => ts.length + 2 - (intOf i).toNat)
        case atStart => exact ⟨0, Nat.zero_le _, rfl, (HK5.out.alloc _).drewN 1⟩
        case round =>
          obtain ⟨k, hk, rfl, hkp⟩ := hrel
          have HX : Hid (Kept w b w2.heap.size t v m c ct (c) sa ts (ts.length + 2) u0 u1 x0 x1 (ts.length + 2) wr) := hkp
          clear hkp
          by_cases hlt : k < ts.length + 2
          · have dT : wr.cell? ⟨w2.heap.size, k, none⟩ = some (.int .u64 (ansT c ct ts (c + k))) := by rw [HX.out.rT.cell hlt, if_pos hlt]
            have dE : wr.cell? ⟨w2.heap.size + 1, k, none⟩ = some (.bool (ansB c ts.length (c + k))) := by rw [HX.out.rE.cell hlt, if_pos hlt]
            go_wp2_with fail
            refine (ask_any HX.out.st (c + k) u0 u1 x0 x1 HX.out.g0 HX.out.g1 (by omega) hc1 hn).mono ?_
            rintro e w7 ⟨⟨hB, rfl⟩ | ⟨u, x, hB, rfl⟩, q, rfl⟩
            all_goals
              rw [hB] at dE
              clear hB
              go_wp2
              go_quiet (fail)
              go_wp2
              go_roundw
              case rel => exact ⟨k + 1, by omega, by go_num, HX.out.drewN _⟩
              case measure => simp [intOf]; omega
          · go_wp2
            go_ret
            exact ⟨rfl, HX.out.bel⟩
end Go.Proofs.Qxb6603498aDoor
