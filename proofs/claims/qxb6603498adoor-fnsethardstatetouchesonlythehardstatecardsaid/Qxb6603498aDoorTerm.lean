import Derived.Test.Qxb6603498aDoorRows
import Derived.Test.Qxb6603498aDoorLocks
import Derived.Conc.MuLone
import Derived.WalkKit
import Derived.WalkSpells
import Derived.Deep.QuietTactic
import Derived.BigQuiet
namespace Go.Proofs.Qxb6603498aDoor
open Go.RowKit
open Go.MuLone

theorem ret_int {k : IntKind} {a b : Int} (h : a = b) : Ending.returned (.int k a) = .returned (.int k b) := by rw [h]

theorem firstIndex_any (b : Nat) (c : Int) (w : World) (h9 : w.cell? ⟨b, 9, none⟩ = some (.int .u64 c)) (hc0 : 0 ≤ c) (hc1 : c ≤ 18446744073709420543) :
    Calls Tryd.prog 19 #[.pointer (some ⟨b, 0, none⟩)] w fun e w' => e = .returned (.int .u64 (c + 1)) ∧ w' = w := by
  go_enter Tryd.func19, Tryd.ntmps19
  go_wp2
  go_ret
  exact ⟨rfl, rfl⟩

theorem lastIndex_any (b : Nat) (c : Int) (sa : Option Addr) (n cap : Nat) (w : World) (h9 : w.cell? ⟨b, 9, none⟩ = some (.int .u64 c)) (h11 : w.cell? ⟨b, 11, none⟩ = some (.slice sa n cap)) (hc0 : 0 ≤ c) (hc1 : c ≤ 18446744073709420543) (hn : n ≤ 65536) :
    Calls Tryd.prog 22 #[.pointer (some ⟨b, 0, none⟩)] w fun e w' => e = .returned (.int .u64 (c + n)) ∧ ∃ k, w' = w.drewN k := by
  go_enter Tryd.func22, Tryd.ntmps22
  go_wp2
  go_quiet ((go_at_call 19; exact Calls.quiet_of_same (firstIndex_any b c _ (by simpa using h9) hc0 hc1)))
  go_wp2
  go_ret
  exact ⟨ret_int (by omega), _, rfl⟩

/-- The k-th number of a list (0 past its end), behind a name that the walk's simp does not open. -/
def nth (ts : List Int) (k : Nat) : Int := ts.getD k 0

/-- What 'term' asks of the world: the storage's cells. -/
structure Holds (b : Nat) (c ct : Int) (sa : Option Addr) (ts : List Int) (w : World) : Prop where
  h0 : w.cell? ⟨b, 0, none⟩ = some (.int .i32 0)
  f0 : w.frozen? ⟨b, 0, none⟩ = false
  h9 : w.cell? ⟨b, 9, none⟩ = some (.int .u64 c)
  h10 : w.cell? ⟨b, 10, none⟩ = some (.int .u64 ct)
  h11 : w.cell? ⟨b, 11, none⟩ = some (.slice sa ts.length ts.length)
  hts : ∀ k, k < ts.length → ∃ eb, sa = some ⟨eb, 0, none⟩ ∧ w.cell? ⟨eb, k * 3, none⟩ = some (.int .u64 (nth ts k))

theorem term_below (b : Nat) (c i : Int) (e0 : Value) (w : World) (h9 : w.cell? ⟨b, 9, none⟩ = some (.int .u64 c)) (hg : w.cell? ⟨0, 0, none⟩ = some e0) (hi : i < c) :
    Calls Tryd.prog 18 #[.pointer (some ⟨b, 0, none⟩), .int .u64 i] w fun e w' => e = .returned (.tuple #[.int .u64 0, e0]) ∧ ∃ k, w' = w.drewN k := by
  go_enter Tryd.func18, Tryd.ntmps18
  go_wp2
  go_quiet (fail)
  go_wp2
  go_ret2
  exact ⟨rfl, _, rfl⟩

theorem term_at (b : Nat) (c ct : Int) (w : World) (h9 : w.cell? ⟨b, 9, none⟩ = some (.int .u64 c)) (h10 : w.cell? ⟨b, 10, none⟩ = some (.int .u64 ct)) :
    Calls Tryd.prog 18 #[.pointer (some ⟨b, 0, none⟩), .int .u64 c] w fun e w' => e = .returned (.tuple #[.int .u64 ct, .nilIface]) ∧ ∃ k, w' = w.drewN k := by
  go_enter Tryd.func18, Tryd.ntmps18
  go_wp2
  go_ret2
  exact ⟨rfl, 0, rfl⟩

theorem term_past (b : Nat) (c i : Int) (sa : Option Addr) (n cap : Nat) (e1 : Value) (w : World) (h9 : w.cell? ⟨b, 9, none⟩ = some (.int .u64 c)) (h11 : w.cell? ⟨b, 11, none⟩ = some (.slice sa n cap)) (hg : w.cell? ⟨1, 0, none⟩ = some e1) (hc0 : 0 ≤ c) (hc1 : c ≤ 18446744073709420543) (hn : n ≤ 65536) (hi : c + n < i) :
    Calls Tryd.prog 18 #[.pointer (some ⟨b, 0, none⟩), .int .u64 i] w fun e w' => e = .returned (.tuple #[.int .u64 0, e1]) ∧ ∃ k, w' = w.drewN k := by
  have hq : ¬ i < c := by omega
  have hq2 : (i == c) = false := by simp; omega
  go_enter Tryd.func18, Tryd.ntmps18
  go_wp2_with (go_at_call 22; refine (lastIndex_any b c sa n cap _ (by simpa using h9) (by simpa using h11) hc0 hc1 hn).mono ?_; rintro e w' ⟨rfl, k, rfl⟩)
  go_quiet (fail)
  go_wp2
  go_ret2
  exact ⟨rfl, _, World.drewN_drewN _ _ _⟩

theorem term_in (b eb : Nat) (c i t : Int) (n cap : Nat) (w : World) (h9 : w.cell? ⟨b, 9, none⟩ = some (.int .u64 c)) (h11 : w.cell? ⟨b, 11, none⟩ = some (.slice (some ⟨eb, 0, none⟩) n cap)) (hc0 : 0 ≤ c) (hc1 : c ≤ 18446744073709420543) (hn : n ≤ 65536) (hi : c < i) (hi2 : i ≤ c + n)
    (ht : w.cell? ⟨eb, (i - (c + 1)).toNat * 3, none⟩ = some (.int .u64 t)) :
    Calls Tryd.prog 18 #[.pointer (some ⟨b, 0, none⟩), .int .u64 i] w fun e w' => e = .returned (.tuple #[.int .u64 t, .nilIface]) ∧ ∃ k, w' = w.drewN k := by
  have hq : ¬ i < c := by omega
  have hq2 : (i == c) = false := by simp; omega
  go_enter Tryd.func18, Tryd.ntmps18
  go_wp2_with (go_at_call 22; refine (lastIndex_any b c _ n cap _ (by simpa using h9) (by simpa using h11) hc0 hc1 hn).mono ?_; rintro e w1 ⟨rfl, k, hk⟩; have k9 : w1.cell? ⟨b, 9, none⟩ = some (.int .u64 c) := (by rw [hk]; simpa using h9); have k11 : w1.cell? ⟨b, 11, none⟩ = some (.slice (some ⟨eb, 0, none⟩) n cap) := (by rw [hk]; simpa using h11); have kt : w1.cell? ⟨eb, (i - (c + 1)).toNat * 3, none⟩ = some (.int .u64 t) := (by rw [hk]; simpa using ht); have HK : Hid (w1 = w.drewN k) := hk; clear hk)
  go_quiet ((go_at_call 19; exact Calls.quiet_of_same (firstIndex_any b c _ (by simpa using k9) hc0 hc1)))
  go_wp2
  go_ret2
  exact ⟨rfl, _, by rw [HK.out]; exact World.drewN_drewN _ _ _⟩

/-- A cell that is turned and turned back: the world is as it was. -/
theorem setCell_back {w : World} {b o : Nat} {v : Value} (u : Value) (h : w.cell? ⟨b, o, none⟩ = some v) : (w.setCell ⟨b, o, none⟩ u).setCell ⟨b, o, none⟩ v = w := by
  have hh : ((w.setCell ⟨b, o, none⟩ u).setCell ⟨b, o, none⟩ v).heap = w.heap := by
    apply Array.ext_getElem?
    intro k
    simp only [World.setCell, Array.getElem?_modify]
    by_cases hk : b = k
    · subst hk
      simp only [if_true]
      unfold World.cell? at h
      simp only at h
      cases hb : w.heap[b]? with
      | none => rfl
      | some ob =>
        rw [hb] at h
        cases ob with
        | cells c e f =>
          replace h : c[o]? = some v := h
          obtain ⟨ho, hv⟩ := Array.getElem?_eq_some_iff.1 h
          clear h
          simp only [Option.map_some]
          congr 1
          simp only [Option.isSome_none, Bool.false_eq_true, if_false, Obj.cells.injEq, and_true]
          apply Array.ext_getElem?
          intro j
          simp only [Array.getElem?_setIfInBounds, Array.size_setIfInBounds]
          by_cases hj : o = j
          · subst hj
            simp [ho, hv]
          · simp [hj]
        | _ => simp at h
    · simp [hk]
  show ({ w with heap := ((w.setCell ⟨b, o, none⟩ u).setCell ⟨b, o, none⟩ v).heap } : World) = w
  rw [hh]

/-- 'Term' by 'term', under the free lock: whatever the quiet callee answers. -/
theorem Term_of (b : Nat) (i t : Int) (ev : Value) (w : World) (h0 : w.cell? ⟨b, 0, none⟩ = some (.int .i32 0)) (f0 : w.frozen? ⟨b, 0, none⟩ = false)
    (H : Hid (Calls Tryd.prog 18 #[.pointer (some ⟨b, 0, none⟩), .int .u64 i] (w.setCell ⟨b, 0, none⟩ (.int .i32 1)) fun e w' => e = .returned (.tuple #[.int .u64 t, ev]) ∧ ∃ k, w' = (w.setCell ⟨b, 0, none⟩ (.int .i32 1)).drewN k)) :
    Calls Tryd.prog 9 #[.pointer (some ⟨b, 0, none⟩), .int .u64 i] w fun e w' => e = .returned (.tuple #[.int .u64 t, ev]) ∧ ∃ k, w' = w.drewN k := by
  go_enter_defers Tryd.func9, Tryd.ntmps9
  go_wp2_with (first | (go_at_call 16; refine (lock_free Tryd.muLib ⟨b, 0, none⟩ _ h0 f0).mono ?_; rintro e w' ⟨rfl, rfl⟩) | (go_at_call 18; refine (Hid.out H).mono ?_; rintro e w' ⟨rfl, k, rfl⟩))
  refine leaves_cons (f := 17) (args := #[.pointer (some ⟨b, 0, none⟩)]) (by simp) (by simp [go_sem]) ?_
  refine (unlock_deferred Tryd.muLib ⟨b, 0, none⟩ .returning _ ?_ ?_).mono ?_
  · exact World.cell?_setCell_same w ⟨b, 0, none⟩ (.int .i32 1) h0
  · simp [f0]
  rintro e u' w'' ⟨rfl, rfl, rfl⟩
  exact ⟨_, results_tmp2 rfl _ _ _, rfl, k, congrArg (fun x => World.drewN x k) (setCell_back (.int .i32 1) h0)⟩
end Go.Proofs.Qxb6603498aDoor
