import Derived.Test.Qxb6601031aNumber
import Derived.Deep.OwnRows
import Derived.Laws.IdiomStrings
namespace Go.Proofs.Qxb6601031a
open Go.RowKit

/-- What the loop of zzItoa holds on to: j digits are laid behind r cells; m is left. -/
structure Ito (w : World) (n m : Int) (r j : Nat) (ds : List UInt8) (wr : World) : Prop where
  grown : Grown w wr
  room : r + j = 24
  row : ∃ f, wr.rowIs w.heap.size 37 24 f ∧ ∀ t (h : t < ds.length), f (r + t) = .int .u8 (ds[t].toNat : Int)
  len : ds.length = j
  dig : Digits ds
  eq : n = m * 10 ^ j + val ds
  m0 : 0 ≤ m
  pos : j = 0 ∨ 1 ≤ m

/-- Eighteen digits at most have been laid while something is left. -/
theorem Ito.few {w : World} {n m : Int} {r j : Nat} {ds : List UInt8} {wr : World} (h : Ito w n m r j ds wr) (hn : n ≤ 9223372036854775807) : j ≤ 18 := by
  rcases h.pos with hj | hm
  · omega
  · have hv := val_nonneg _ h.dig
    have he := h.eq
    by_cases hj : j ≤ 18
    · exact hj
    · have hp : (10 : Int) ^ 19 ≤ 10 ^ j := by
        have := Nat.pow_le_pow_right (n := 10) (by decide) (show 19 ≤ j by omega)
        exact_mod_cast this
      have h10 : (10 : Int) ^ 19 = 10000000000000000000 := by decide
      have : 1 * (10 : Int) ^ j ≤ m * 10 ^ j := Int.mul_le_mul_of_nonneg_right hm (by have := pow10_pos j; omega)
      omega

theorem Ito.step {w : World} {n m : Int} {q j : Nat} {ds : List UInt8} {wr : World} (h : Ito w n m (q + 1) j ds wr) :
    Grown w (wr.setCell ⟨w.heap.size, q, none⟩ (.int .u8 (48 + m % 10))) ∧ q + (j + 1) = 24 ∧
    (∃ f, (wr.setCell ⟨w.heap.size, q, none⟩ (.int .u8 (48 + m % 10))).rowIs w.heap.size 37 24 f ∧ ∀ t (ht : t < (digitOf (m % 10) :: ds).length), f (q + t) = .int .u8 ((digitOf (m % 10) :: ds)[t].toNat : Int)) ∧
    (digitOf (m % 10) :: ds).length = j + 1 ∧ Digits (digitOf (m % 10) :: ds) ∧ n = m / 10 * 10 ^ (j + 1) + val (digitOf (m % 10) :: ds) ∧ 0 ≤ m / 10 := by
  have hm := h.m0
  have hd := digitOf_toNat (m % 10) (by omega) (by omega)
  have hr := h.room
  have hl := h.len
  obtain ⟨f, hf, hft⟩ := h.row
  refine ⟨h.grown.setCell (Nat.le_refl _) _, by omega, ⟨_, hf.set q _, fun t ht => ?_⟩, by simp [hl], fun c hc => ?_, ?_, by omega⟩
  · cases t with
    | zero => simp [hd]
    | succ t =>
      simp only [List.length_cons] at ht
      have := hft t (by omega)
      rw [show q + 1 + t = q + (t + 1) by omega] at this
      simp only [show ¬ q + (t + 1) = q by omega, if_false, List.getElem_cons_succ]
      exact this
  · rcases List.mem_cons.1 hc with rfl | hc
    · omega
    · exact h.dig c hc
  · rw [val_cons, hd, hl, Int.pow_succ, h.eq]
    have hdm : m = 10 * (m / 10) + m % 10 := by omega
    have e1 : m * 10 ^ j = (10 * (m / 10) + m % 10) * 10 ^ j := by rw [← hdm]
    rw [e1, Int.add_mul, Int.mul_comm (10 ^ j) 10, ← Int.mul_assoc, Int.mul_comm (m / 10) 10]
    have e2 : (48 + m % 10 - 48 : Int) = m % 10 := by omega
    rw [e2]
    omega

theorem arr37 : Try.prog.arrayLen 37 = 24 := by kernel_rfl
theorem elem37 : Try.prog.elem 37 = 5 := by kernel_rfl

/-- 'buf[q:]' of the local array. -/
theorem slice_buf (B q : Nat) (hq : q ≤ 23) (W : World) : (Instr.sliceAt 37 (.pointer (some ⟨B, 0, none⟩)) (some (.int .i64 (q : Int))) none none).run Try.prog W = .ok (.slice (some ⟨B, q, none⟩) (24 - q) (24 - q)) W := by
  rw [run_sliceAt_array_l (P := Try.prog) W 37 ⟨B, 0, none⟩ (by kernel_rfl) .i64 (q : Int) (by omega) (by rw [arr37]; omega), elem37, Try.sizeOf5, arr37]
  simp [slicedAt, Addr.add, show ¬ 24 = q by omega]
  omega

/-- 'string(..)' of the digits. -/
theorem string_buf (B q : Nat) (hq : q ≤ 23) (l : List UInt8) (hl : l.length = 24 - q) (W : World) (f : Nat → Value) (hf : W.rowIs B 37 24 f) (hft : ∀ t (ht : t < l.length), f (q + t) = .int .u8 (l[t].toNat : Int)) :
    (convert 38 9 (.slice (some ⟨B, q, none⟩) (24 - q) (24 - q))).run Try.prog W = .ok (.string ⟨l.toArray⟩) W := by
  have h := run_convert_bytes_back (P := Try.prog) W 38 9 5 ⟨B, q, none⟩ (24 - q) l Try.underlying38 Try.underlying5 Try.underlying9 (fun t ht => by
    rw [Go.WideShapes.add_plain, hf.cell (by omega), hft t ht])
  rwa [hl] at h

/-- What is left is at most the number. -/
theorem Ito.le {w : World} {n m : Int} {r j : Nat} {ds : List UInt8} {wr : World} (h : Ito w n m r j ds wr) : m ≤ n := by
  have hv := val_nonneg _ h.dig
  have he := h.eq
  have hm := h.m0
  have hp := pow10_pos j
  have : m * 1 ≤ m * 10 ^ j := Int.mul_le_mul_of_nonneg_left (by omega) hm
  omega

set_option maxHeartbeats 400000 in
theorem itoa_any (n : Int) (w : World) (h0 : 0 ≤ n) (h1 : n ≤ 9223372036854775807) :
    Calls Try.prog 21 #[.int .i64 n] w fun e w' => ∃ s : ByteArray, e = .returned (.string s) ∧ s.size ≤ 24 ∧ Digits s.data.toList ∧ val s.data.toList = n ∧ Grown w w' := by
  go_enter Try.func21, Try.ntmps21
  go_wp2
  go_loopw [4, 5] (fun i m wr => ∃ (r j : Nat) (k : Int) (ds : List UInt8), i = .int .i64 r ∧ m = .int .i64 k ∧ Ito w n k r j ds wr) (fun i _ _ => (intOf i).toNat)
  case atStart =>
    refine ⟨24, 0, n, [], rfl, rfl, (Grown.refl _).alloc _ _, rfl, ⟨fun _ => .int .u8 0, ?_, fun t ht => absurd ht (by simp)⟩, rfl, fun c hc => absurd hc (by simp), by simp [val_nil], h0, .inl rfl⟩
    exact World.rowIs_alloc w (Array.replicate 24 (.int .u8 0)) 37 _ (fun i hi => by rw [Array.getElem?_eq_getElem hi]; simp)
  case round =>
    obtain ⟨r, j, m, ds, rfl, rfl, hI⟩ := hrel
    have hj := hI.few h1
    have hm0 := hI.m0
    have hr := hI.room
    obtain ⟨q, rfl⟩ : ∃ q, r = q + 1 := ⟨r - 1, by omega⟩
    have hq : q ≤ 23 := by omega
    obtain ⟨f, hf, _⟩ := hI.row
    have d0 := hf.cell (i := q) (by omega)
    have f0 := hf.frozen q
    have hmn : m ≤ 9223372036854775807 := by have := hI.le; omega
    obtain ⟨s1, s2, ⟨f', hf', hft'⟩, s4, s5, s6, s7⟩ := hI.step
    by_cases hm : m < 10
    · have hsl := slice_buf w.heap.size q hq
      have hcv := string_buf w.heap.size q hq _ (by omega) _ f' hf' hft'
      have HX : Hid ((digitOf (m % 10) :: ds).length = j + 1 ∧ Digits (digitOf (m % 10) :: ds) ∧ n = m / 10 * 10 ^ (j + 1) + val (digitOf (m % 10) :: ds) ∧ q + (j + 1) = 24) := ⟨s4, s5, s6, s2⟩
      clear hI hf hf' hft' hr hj s4 s5 s6 s7 s2
      go_wp2
      go_ret
      obtain ⟨s4, s5, s6, s2⟩ := HX.out
      refine ⟨_, rfl, ?_, s5, ?_, s1⟩
      · show (digitOf (m % 10) :: ds).toArray.size ≤ 24
        rw [List.size_toArray]; omega
      · show val (digitOf (m % 10) :: ds) = n
        rw [s6, show m / 10 = 0 by omega]; omega
    · have HX : Hid (Ito w n (m / 10) q (j + 1) (digitOf (m % 10) :: ds) _) := ⟨s1, s2, ⟨f', hf', hft'⟩, s4, s5, s6, s7, .inr (by omega)⟩
      clear hI hf hf' hft' hr hj s1 s2 s4 s5 s6 s7
      go_wp2
      go_roundw
      case rel => exact ⟨q, j + 1, _, _, rfl, rfl, HX.out⟩
      case measure => simp [intOf]
end Go.Proofs.Qxb6601031a
