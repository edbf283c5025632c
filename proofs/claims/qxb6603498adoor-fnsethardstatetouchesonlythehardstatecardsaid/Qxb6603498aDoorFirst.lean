import Derived.Test.Qxb6603498aDoorAsk
namespace Go.Proofs.Qxb6603498aDoor
open Go.RowKit

/-- Draws turn no block. -/
theorem Below.of_drewN {B : Nat} {a w : World} (h : Below B a w) (n : Nat) : Below B a (w.drewN n) := ⟨h.os, h.tape, h.output, h.size, h.block⟩

theorem first_long (c ct : Int) (a : Option Addr) (n cap : Nat) (w : World) (hn : 65536 < n) (hm : n ≤ 9223372036854775807) :
    Calls Tryd.prog 4 #[.int .u64 c, .int .u64 ct, .slice a n cap] w fun e w' => e = .returned (.bool true) ∧ w' = w := by
  by_cases h : 1048576 < n
  · go_enter Tryd.func4, Tryd.ntmps4
    go_wp2
    go_ret
    exact ⟨rfl, rfl⟩
  · go_enter Tryd.func4, Tryd.ntmps4
    go_wp2
    go_ret
    exact ⟨rfl, rfl⟩

theorem first_high (c ct : Int) (a : Option Addr) (n cap : Nat) (w : World) (hn : n ≤ 65536) (hc : 18446744073709420543 < c) :
    Calls Tryd.prog 4 #[.int .u64 c, .int .u64 ct, .slice a n cap] w fun e w' => e = .returned (.bool true) ∧ w' = w := by
  go_enter Tryd.func4, Tryd.ntmps4
  go_wp2
  go_ret
  exact ⟨rfl, rfl⟩

theorem zzfirst_any (b : Nat) (c : Int) (w : World) (h9 : w.cell? ⟨b, 9, none⟩ = some (.int .u64 c)) (hc0 : 0 ≤ c) (hc1 : c ≤ 18446744073709420543) :
    Calls Tryd.prog 13 #[.pointer (some ⟨b, 0, none⟩)] w fun e w' => e = .returned (.int .u64 (c + 1)) ∧ w' = w := by
  go_enter Tryd.func13, Tryd.ntmps13
  go_wp2_with (go_at_call 19; refine (firstIndex_any b c _ h9 hc0 hc1).mono ?_; rintro e w' ⟨rfl, rfl⟩)
  go_ret
  exact ⟨rfl, rfl⟩

theorem zzents_any (b n cap : Nat) (sa : Option Addr) (w : World) (h11 : w.cell? ⟨b, 11, none⟩ = some (.slice sa n cap)) :
    Calls Tryd.prog 14 #[.pointer (some ⟨b, 0, none⟩)] w fun e w' => e = .returned (.slice sa n cap) ∧ w' = w := by
  go_enter Tryd.func14, Tryd.ntmps14
  go_wp2
  go_ret
  exact ⟨rfl, rfl⟩

set_option maxHeartbeats 1600000 in
theorem first_main (c ct : Int) (a : Option Addr) (n cap : Nat) (ts : List Int) (w : World) (u0 u1 : TypeId) (x0 x1 : Value) (g0 : w.cell? ⟨0, 0, none⟩ = some (.iface u0 x0)) (g1 : w.cell? ⟨1, 0, none⟩ = some (.iface u1 x1)) (hw : 2 ≤ w.heap.size)
    (hc0 : 0 ≤ c) (hc1 : c ≤ 18446744073709420543) (hn : n ≤ 65536) (hi : Ints w a n ts) :
    Calls Tryd.prog 4 #[.int .u64 c, .int .u64 ct, .slice a n cap] w fun e w' => e = .returned (.bool true) ∧ Below w.heap.size w w' := by
  obtain rfl : ts.length = n := hi.1
  have HI : Hid (Ints w a ts.length ts) := hi
  clear hi
  go_enter Tryd.func4, Tryd.ntmps4
  go_wp2_with (go_at_call 12; refine (bytes4_any _ _ _ _ _ _ hn).mono ?_; rintro e w' ⟨rfl, hw'⟩; subst w')
  refine (sorted_any ct a ts.length cap ts _ hn HI.out).mono ?_
  rintro e w' ⟨⟨r, rfl⟩, hw'⟩
  subst w'
  cases r
  · go_wp2
    go_ret
    exact ⟨rfl, Below.refl _ _⟩
  go_wp2_with fail
  refine (clone_any a ts.length cap ts _ hn HI.out).mono ?_
  rintro e w1 ⟨a1, rfl, hb1, hi1⟩
  have HI1 : Hid (Ints w1 a1 ts.length ts) := hi1
  clear hi1
  have hs1 := hb1.size
  have k0 : w1.cell? ⟨0, 0, none⟩ = some (.iface u0 x0) := (hb1.cell (by simp; omega)).trans g0
  have k1 : w1.cell? ⟨1, 0, none⟩ = some (.iface u1 x1) := (hb1.cell (by simp; omega)).trans g1
  clear g0 g1
  go_wp2_with fail
  refine (storage_any 0 0 0 c ct a1 ts.length ts.length ts _ (by omega) hn hc0 hc1 HI1.out).mono ?_
  rintro e w2 ⟨b, sa, rfl, hbb, hb2, S⟩
  have hbel : Below w.heap.size w w2 := hb1.trans (hb2.mono hs1)
  have g0 : w2.cell? ⟨0, 0, none⟩ = some (.iface u0 x0) := (hb2.cell (by simp; omega)).trans k0
  have g1 : w2.cell? ⟨1, 0, none⟩ = some (.iface u1 x1) := (hb2.cell (by simp; omega)).trans k1
  have HC : Hid (ts.length = 0 ∨ ∃ bb off, a1 = some ⟨bb, off, none⟩ ∧ ∀ k, k < ts.length → w2.cell? ⟨bb, off + k, none⟩ = some (.int .u64 (nth ts k))) := by
    rcases HI1.out.2 with h | ⟨bb, off, e, hlt, hc⟩
    · exact .inl h
    · exact .inr ⟨bb, off, e, fun k hk => (hb2.cell (by exact hlt)).trans (hc k hk)⟩
  clear hb1 hs1 k0 k1 hb2 HI1 HI hw
  go_wp2_with fail
  refine (zzfirst_any b c _ S.c9 hc0 hc1).mono ?_
  rintro e w' ⟨rfl, hw'⟩
  subst w'
  go_wp2_with fail
  refine (zzents_any b ts.length ts.length sa _ S.c11).mono ?_
  rintro e w' ⟨rfl, hw'⟩
  subst w'
  go_wp2_with fail
  go_loop [10] (fun i => ∃ k : Nat, k ≤ ts.length ∧ i = .int .i64 k) (fun i => ts.length - (intOf i).toNat)
  case atStart => exact ⟨0, Nat.zero_le _, rfl⟩
  case round =>
    obtain ⟨k, hk, rfl⟩ := hrel
    by_cases hlt : k < ts.length
    · rcases S.ent with h | ⟨eb, f, rfl, hne, hf, hj⟩
      · omega
      have hc1k : w2.cell? ⟨eb, k * 3 + 1, none⟩ = some (.int .u64 (c + 1 + k)) := by rw [hf.cell (by omega), (hj k hlt).2]
      clear hf hj S HC
      go_wp2
      go_round
      case rel => exact ⟨k + 1, by omega, by go_num⟩
      case measure => simp [intOf]; omega
    · go_wp2_with fail
      refine (ask_at S).mono ?_
      rintro e w3 ⟨rfl, q3, rfl⟩
      go_wp2_with fail
      go_loopw [11, 12, 13] (fun t e i wr => ∃ (j q : Nat), j ≤ ts.length ∧ i = .int .i64 j ∧ wr = w2.drewN q) (fun _ _ i _ => ts.length - (intOf i).toNat)
      case atStart => exact ⟨0, _, Nat.zero_le _, rfl, rfl⟩
      case round =>
        obtain ⟨j, q, hj, rfl, rfl⟩ := hrel
        by_cases hjn : j < ts.length
        · rcases HC.out with h | ⟨bb, off, rfl, hc⟩
          · omega
          have hcj := hc j hjn
          clear hc
          have hask := ask_in (S.drewN q) (c + 1 + j) hc0 hc1 hn (by omega) (by omega)
          rw [show (c + 1 + (j : Int) - (c + 1)).toNat = j by omega] at hask
          go_wp2_with (go_at_call 9; refine hask.mono ?_; clear hask; rintro e w3 ⟨rfl, q3, rfl⟩)
          go_roundw
          case rel => exact ⟨j + 1, _, by omega, by go_num, rfl⟩
          case measure => simp [intOf]; omega
        · have ej : j = ts.length := by omega
          go_wp2_with fail
          refine (ask_past (S.drewN q) (c + 1 + ts.length) _ g1 hc0 hc1 hn (by omega)).mono ?_
          rintro e w4 ⟨rfl, q4, rfl⟩
          by_cases h2 : 1 ≤ c
          · go_wp2_with fail
            refine (ask_below (S.drewN (q + q4)) (c + 1 - 2) _ g0 (by omega)).mono ?_
            rintro e w5 ⟨rfl, q5, rfl⟩
            go_wp2
            go_ret
            exact ⟨rfl, Below.of_drewN hbel _⟩
          · go_wp2
            go_ret
            exact ⟨rfl, Below.of_drewN hbel _⟩
end Go.Proofs.Qxb6603498aDoor
