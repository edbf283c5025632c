import Derived.Test.Qxb6601031aCompare
import Derived.Test.Qxb6601031aKeyPlain
import Derived.Deep.OwnRows
import Derived.Laws.IdiomStrings
namespace Go.Proofs.Qxb6601031a
open Go.RowKit

theorem info5 : (Try.prog.info? 5).map (fun i => (i.zero, i.size, i.bytes)) = some (some (.int .u8 0), 1, 1) := by kernel_rfl

/-- What the first loop of zzKey holds on to: the last j of the eight bytes are laid. -/
structure Laid8 (w : World) (X : Int) (n j : Nat) (wr : World) : Prop where
  grown : Grown w wr
  row : ∃ g, wr.rowIs w.heap.size 5 (9 + n) g ∧ (∀ i, i < 8 → 8 - j ≤ i → g i = .int .u8 ((byteAt X i).toNat : Int)) ∧ ∀ i, 8 ≤ i → g i = .int .u8 0

theorem Laid8.start (w : World) (X : Int) (n : Nat) : Laid8 w X n 0 (w.alloc (.cells (madeCells #[.int .u8 0] (9 + n)) 5)) :=
  ⟨(Grown.refl _).alloc _ _, _, World.rowIs_made w (.int .u8 0) (9 + n) 5, fun i h1 h2 => absurd h2 (by omega), fun _ _ => rfl⟩

theorem Laid8.step {w : World} {X : Int} {n j : Nat} {wr : World} (h : Laid8 w X n j wr) (hj : j < 8) (v : Int) (hv : v = sh X j % 256) :
    Laid8 w X n (j + 1) (wr.setCell ⟨w.heap.size, 7 - j, none⟩ (.int .u8 v)) := by
  obtain ⟨g, hg, h1, h2⟩ := h.row
  refine ⟨h.grown.setCell (Nat.le_refl _) _, _, hg.set (7 - j) _, fun i hi hij => ?_, fun i hi => ?_⟩
  · by_cases e : i = 7 - j
    · subst e
      simp only [if_true]
      rw [byteAt_toNat, hv, show 7 - (7 - j) = j by omega]
    · simp only [if_neg e]
      exact h1 i hi (by omega)
  · simp only [show ¬ i = 7 - j by omega, if_false]
    exact h2 i hi

/-- What the second loop holds on to: the head is laid, and k bytes of the fraction. -/
structure Laid9 (w : World) (X : Int) (l : Bool) (f : ByteArray) (k : Nat) (wr : World) : Prop where
  grown : Grown w wr
  row : ∃ g, wr.rowIs w.heap.size 5 (9 + f.size) g ∧ (∀ i, i < 8 → g i = .int .u8 ((byteAt X i).toNat : Int)) ∧ g 8 = .int .u8 (if l then 1 else 0) ∧ ∀ i (h : i < f.size), i < k → g (9 + i) = .int .u8 (f[i].toNat : Int)

theorem Laid8.plain {w : World} {X : Int} {f : ByteArray} {wr : World} (h : Laid8 w X f.size 8 wr) : Laid9 w X false f 0 wr := by
  obtain ⟨g, hg, h1, h2⟩ := h.row
  exact ⟨h.grown, g, hg, fun i hi => h1 i hi (by omega), h2 8 (Nat.le_refl _), fun i _ hk => absurd hk (by omega)⟩
theorem Laid8.leap {w : World} {X : Int} {f : ByteArray} {wr : World} (h : Laid8 w X f.size 8 wr) : Laid9 w X true f 0 (wr.setCell ⟨w.heap.size, 8, none⟩ (.int .u8 1)) := by
  obtain ⟨g, hg, h1, h2⟩ := h.row
  refine ⟨h.grown.setCell (Nat.le_refl _) _, _, hg.set 8 _, fun i hi => ?_, rfl, fun i _ hk => absurd hk (by omega)⟩
  simp only [show ¬ i = 8 by omega, if_false]
  exact h1 i hi (by omega)

theorem Laid9.step {w : World} {X : Int} {l : Bool} {f : ByteArray} {k : Nat} {wr : World} (h : Laid9 w X l f k wr) (hk : k < f.size) :
    Laid9 w X l f (k + 1) (wr.setCell ⟨w.heap.size, 9 + k, none⟩ (.int .u8 (f[k].toNat : Int))) := by
  obtain ⟨g, hg, h1, h2, h3⟩ := h.row
  refine ⟨h.grown.setCell (Nat.le_refl _) _, _, hg.set (9 + k) _, fun i hi => ?_, ?_, fun i hi hik => ?_⟩
  · simp only [show ¬ i = 9 + k by omega, if_false]
    exact h1 i hi
  · simp only [show ¬ 8 = 9 + k by omega, if_false]
    exact h2
  · by_cases e : i = k
    · subst e; simp
    · simp only [show ¬ 9 + i = 9 + k by omega, if_false]
      exact h3 i hi (by omega)

theorem be8_get (X : Int) (i : Nat) (h : i < (be8 X).length) : (be8 X)[i] = byteAt X i := by
  have h8 : i < 8 := h
  have : i = 0 ∨ i = 1 ∨ i = 2 ∨ i = 3 ∨ i = 4 ∨ i = 5 ∨ i = 6 ∨ i = 7 := by omega
  rcases this with rfl | rfl | rfl | rfl | rfl | rfl | rfl | rfl <;> rfl

/-- The cells are the key's bytes. -/
theorem Laid9.cells {w : World} {X : Int} {l : Bool} {f : ByteArray} {wr : World} (h : Laid9 w X l f f.size wr) (j : Nat) (hj : j < (keyL X l f.data.toList).length) :
    wr.cell? ⟨w.heap.size, j, none⟩ = some (.int .u8 ((keyL X l f.data.toList)[j].toNat : Int)) := by
  obtain ⟨g, hg, h1, h2, h3⟩ := h.row
  have hlen := keyL_length X l f.data.toList
  have hfl : f.data.toList.length = f.size := by simp
  rw [hg.cell (by omega)]
  congr 1
  by_cases c1 : j < 8
  · have e : (keyL X l f.data.toList)[j] = (be8 X)[j]'(by rw [be8_length]; exact c1) := List.getElem_append_left ..
    rw [e, be8_get, h1 j c1]
  · by_cases c2 : j = 8
    · subst c2
      rw [h2]
      cases l <;> rfl
    · have e0 : (keyL X l f.data.toList)[j]? = f.data.toList[j - 9]? := by
        unfold keyL
        rw [List.getElem?_append_right (by rw [be8_length]; omega), be8_length, show j - 8 = (j - 9) + 1 by omega, List.getElem?_cons_succ]
      rw [List.getElem?_eq_getElem hj, List.getElem?_eq_getElem (show j - 9 < f.data.toList.length by omega)] at e0
      have e := Option.some.inj e0
      rw [e]
      have := h3 (j - 9) (by omega) (by omega)
      rw [show 9 + (j - 9) = j by omega] at this
      rw [this]
      rfl

theorem string_key {w : World} {X : Int} {l : Bool} {f : ByteArray} {wr : World} (h : Laid9 w X l f f.size wr) :
    (convert 38 9 (.slice (some ⟨w.heap.size, 0, none⟩) (9 + f.size) (9 + f.size))).run Try.prog wr = .ok (.string ⟨(keyL X l f.data.toList).toArray⟩) wr := by
  have hlen := keyL_length X l f.data.toList
  have hfl : f.data.toList.length = f.size := by simp
  have := run_convert_bytes_back (P := Try.prog) wr 38 9 5 ⟨w.heap.size, 0, none⟩ (9 + f.size) (keyL X l f.data.toList) Try.underlying38 Try.underlying5 Try.underlying9 (fun j hj => by
    rw [Go.WideShapes.add_plain, Nat.zero_add]; exact h.cells j hj)
  rwa [hlen, hfl] at this

set_option maxHeartbeats 800000 in
theorem key_plain (u : Int) (f : ByteArray) (w : World) (hf : f.size ≤ 65536) (h0 : -9223372036854775808 ≤ u) (h1 : u ≤ 9223372036854775807) :
    Calls Try.prog 24 #[.int .i64 u, .bool false, .string f] w fun e w' => e = .returned (.string ⟨(keyL (u + 9223372036854775808) false f.data.toList).toArray⟩) ∧ Grown w w' := by
  have hmk := run_make_row' (P := Try.prog) 38 5 (.int .u8 0) 1 Try.underlying38 info5 rfl .i64 .i64 (9 + f.size) (by omega) (by omega)
  have ec : ((9 + f.size : Nat) : Int) = 9 + (f.size : Int) := by omega
  rw [ec] at hmk
  clear ec
  obtain ⟨X, hX⟩ : ∃ X, X = u + 9223372036854775808 := ⟨_, rfl⟩
  have HX : Hid (bits .xor .u64 (IntKind.u64.wrap u) 9223372036854775808 = X) := by unfold Hid; rw [xor_sign u h0 h1, hX]
  have hx0 : 0 ≤ X := by omega
  have hx1 : X ≤ 18446744073709551615 := by omega
  rw [← hX]
  clear hX h0 h1
  go_enter Try.func24, Try.ntmps24
  go_wp2
  go_loopw [8, 9] (fun x i wr => ∃ j : Nat, j ≤ 8 ∧ x = .int .u64 (sh X j) ∧ i = .int .i64 (7 - (j : Int)) ∧ Laid8 w X f.size j wr) (fun _ i _ => (intOf i + 1).toNat)
  case atStart => exact ⟨0, by omega, by rw [HX.out, sh_zero], by rfl, Laid8.start w X f.size⟩
  case round =>
    obtain ⟨j, hj, rfl, rfl, hL⟩ := hrel
    have hsb := sh_nonneg X hx0 j
    have s0 : 0 ≤ sh X j := hsb.1
    have s1 : sh X j ≤ 18446744073709551615 := by omega
    clear hsb
    by_cases hlt : j < 8
    · obtain ⟨g, hg, _⟩ := hL.row
      have d0 := hg.cell (i := 7 - j) (by omega)
      have f0 := hg.frozen (7 - j)
      have ei : (7 - (j : Int)).toNat = 7 - j := by omega
      have HS : Hid (Laid8 w X f.size (j + 1) _) := hL.step hlt (bits .and .u64 (sh X j) 255 % 256) (by rw [and255 _ s0 (by omega)]; omega)
      have HE : Hid (sh X (j + 1) = sh X j / 256) := sh_succ X j
      clear hL hg
      go_wp2
      go_roundw
      case rel => exact ⟨j + 1, by omega, by rw [HE.out], by go_num, HS.out⟩
      case measure => simp [intOf]; omega
    · have ej : j = 8 := by omega
      subst ej
      have H9 : Hid (Laid9 w X false f 0 _) := hL.plain
      clear hL
      go_wp2
      go_loopw [10] (fun i wx => ∃ k : Nat, k ≤ f.size ∧ i = .int .i64 k ∧ Laid9 w X false f k wx) (fun i _ => f.size - (intOf i).toNat)
      case atStart => exact ⟨0, Nat.zero_le _, rfl, H9.out⟩
      case round =>
        obtain ⟨k, hk, rfl, hL9⟩ := hrel
        by_cases hlt2 : k < f.size
        · obtain ⟨g, hg, _⟩ := hL9.row
          have d9 := hg.cell (i := 9 + k) (by omega)
          have f9 := hg.frozen (9 + k)
          have HS : Hid (Laid9 w X false f (k + 1) _) := hL9.step hlt2
          have ei : (9 + (k : Int)).toNat = 9 + k := by omega
          clear hL9 hg
          go_wp2
          go_roundw
          case rel => exact ⟨k + 1, by omega, by go_num, HS.out⟩
          case measure => simp [intOf]; omega
        · have ek : k = f.size := by omega
          subst ek
          have hcv := string_key hL9
          have hgr := hL9.grown
          clear hL9
          go_wp2
          go_ret
          exact ⟨rfl, hgr⟩
set_option maxHeartbeats 800000 in
theorem key_leap (u : Int) (f : ByteArray) (w : World) (hf : f.size ≤ 65536) (h0 : -9223372036854775808 ≤ u) (h1 : u ≤ 9223372036854775807) :
    Calls Try.prog 24 #[.int .i64 u, .bool true, .string f] w fun e w' => e = .returned (.string ⟨(keyL (u + 9223372036854775808) true f.data.toList).toArray⟩) ∧ Grown w w' := by
  have hmk := run_make_row' (P := Try.prog) 38 5 (.int .u8 0) 1 Try.underlying38 info5 rfl .i64 .i64 (9 + f.size) (by omega) (by omega)
  have ec : ((9 + f.size : Nat) : Int) = 9 + (f.size : Int) := by omega
  rw [ec] at hmk
  clear ec
  obtain ⟨X, hX⟩ : ∃ X, X = u + 9223372036854775808 := ⟨_, rfl⟩
  have HX : Hid (bits .xor .u64 (IntKind.u64.wrap u) 9223372036854775808 = X) := by unfold Hid; rw [xor_sign u h0 h1, hX]
  have hx0 : 0 ≤ X := by omega
  have hx1 : X ≤ 18446744073709551615 := by omega
  rw [← hX]
  clear hX h0 h1
  go_enter Try.func24, Try.ntmps24
  go_wp2
  go_loopw [8, 9] (fun x i wr => ∃ j : Nat, j ≤ 8 ∧ x = .int .u64 (sh X j) ∧ i = .int .i64 (7 - (j : Int)) ∧ Laid8 w X f.size j wr) (fun _ i _ => (intOf i + 1).toNat)
  case atStart => exact ⟨0, by omega, by rw [HX.out, sh_zero], by rfl, Laid8.start w X f.size⟩
  case round =>
    obtain ⟨j, hj, rfl, rfl, hL⟩ := hrel
    have hsb := sh_nonneg X hx0 j
    have s0 : 0 ≤ sh X j := hsb.1
    have s1 : sh X j ≤ 18446744073709551615 := by omega
    clear hsb
    by_cases hlt : j < 8
    · obtain ⟨g, hg, _⟩ := hL.row
      have d0 := hg.cell (i := 7 - j) (by omega)
      have f0 := hg.frozen (7 - j)
      have ei : (7 - (j : Int)).toNat = 7 - j := by omega
      have HS : Hid (Laid8 w X f.size (j + 1) _) := hL.step hlt (bits .and .u64 (sh X j) 255 % 256) (by rw [and255 _ s0 (by omega)]; omega)
      have HE : Hid (sh X (j + 1) = sh X j / 256) := sh_succ X j
      clear hL hg
      go_wp2
      go_roundw
      case rel => exact ⟨j + 1, by omega, by rw [HE.out], by go_num, HS.out⟩
      case measure => simp [intOf]; omega
    · have ej : j = 8 := by omega
      subst ej
      have H9 : Hid (Laid9 w X true f 0 _) := hL.leap
      obtain ⟨g, hg, _⟩ := hL.row
      have d8 := hg.cell (i := 8) (by omega)
      have f8 := hg.frozen 8
      clear hg
      clear hL
      go_wp2
      go_loopw [10] (fun i wx => ∃ k : Nat, k ≤ f.size ∧ i = .int .i64 k ∧ Laid9 w X true f k wx) (fun i _ => f.size - (intOf i).toNat)
      case atStart => exact ⟨0, Nat.zero_le _, rfl, H9.out⟩
      case round =>
        obtain ⟨k, hk, rfl, hL9⟩ := hrel
        by_cases hlt2 : k < f.size
        · obtain ⟨g, hg, _⟩ := hL9.row
          have d9 := hg.cell (i := 9 + k) (by omega)
          have f9 := hg.frozen (9 + k)
          have HS : Hid (Laid9 w X true f (k + 1) _) := hL9.step hlt2
          have ei : (9 + (k : Int)).toNat = 9 + k := by omega
          clear hL9 hg
          go_wp2
          go_roundw
          case rel => exact ⟨k + 1, by omega, by go_num, HS.out⟩
          case measure => simp [intOf]; omega
        · have ek : k = f.size := by omega
          subst ek
          have hcv := string_key hL9
          have hgr := hL9.grown
          clear hL9
          go_wp2
          go_ret
          exact ⟨rfl, hgr⟩

/-- 'zzKey': the key's bytes. -/
theorem key_any (u : Int) (l : Bool) (f : ByteArray) (w : World) (hf : f.size ≤ 65536) (h0 : -9223372036854775808 ≤ u) (h1 : u ≤ 9223372036854775807) :
    Calls Try.prog 24 #[.int .i64 u, .bool l, .string f] w fun e w' => e = .returned (.string ⟨(keyL (u + 9223372036854775808) l f.data.toList).toArray⟩) ∧ Grown w w' := by
  cases l
  · exact key_plain u f w hf h0 h1
  · exact key_leap u f w hf h0 h1
end Go.Proofs.Qxb6601031a
