/-
  Plain mathematics of the byte key: no Go function in sight (but for the model's own 'bits').
-/
import Derived.WalkKit
import Derived.Laws.BitsAllLaws
import Derived.Lib.Bytealg
namespace Go.Proofs.Qxb6601031a
open Go.Lib (compareBytes)

/-- x shifted right by j bytes. -/
def sh (X : Int) (j : Nat) : Int := X / 256 ^ j
theorem sh_zero (X : Int) : sh X 0 = X := by unfold sh; rw [Int.pow_zero, Int.ediv_one]
theorem sh_succ (X : Int) (j : Nat) : sh X (j + 1) = sh X j / 256 := by
  unfold sh
  rw [Int.ediv_ediv_of_nonneg (Int.le_of_lt (Int.pow_pos (by decide))), Int.pow_succ]
theorem sh_nonneg (X : Int) (h : 0 ≤ X) : ∀ j, 0 ≤ sh X j ∧ sh X j ≤ X
  | 0 => by rw [sh_zero]; omega
  | j + 1 => by have := sh_nonneg X h j; rw [sh_succ]; omega

/-- 'x & 255' of a uint64. -/
theorem and255 (y : Int) (h0 : 0 ≤ y) (h1 : y < 18446744073709551616) : bits .and .u64 y 255 = y % 256 := by
  rw [u64_and y 255 h0 h1 (by decide) (by decide)]
  have h : (255 : Int).toNat = 2 ^ 8 - 1 := by decide
  rw [h, Nat.and_two_pow_sub_one_eq_mod]
  omega

theorem xor_top (a : Nat) (h : a < 18446744073709551616) : a ^^^ 9223372036854775808 = if a < 9223372036854775808 then a + 9223372036854775808 else a - 9223372036854775808 := by
  have hm := @Nat.xor_mod_two_pow a 9223372036854775808 63
  have hd := @Nat.xor_div_two_pow a 9223372036854775808 63
  have e : (2 : Nat) ^ 63 = 9223372036854775808 := by decide
  rw [e] at hm hd
  rw [Nat.mod_self, Nat.xor_zero] at hm
  rw [Nat.div_self (by decide)] at hd
  split
  · rename_i hlt
    rw [Nat.div_eq_of_lt hlt, Nat.zero_xor] at hd
    omega
  · rename_i hge
    rw [show a / 9223372036854775808 = 1 by omega, Nat.xor_self] at hd
    omega

/-- 'uint64(u) ^ (1 << 63)': the order of int64 as the order of uint64. -/
theorem xor_sign (u : Int) (h0 : -9223372036854775808 ≤ u) (h1 : u ≤ 9223372036854775807) : bits .xor .u64 (IntKind.u64.wrap u) 9223372036854775808 = u + 9223372036854775808 := by
  rw [IntKind.wrap_u64]
  rw [u64_xor _ _ (by omega) (by omega) (by decide) (by decide)]
  have e : (9223372036854775808 : Int).toNat = 9223372036854775808 := by decide
  rw [e, xor_top _ (by omega)]
  split <;> omega

/-- The byte at place i of the eight, most significant first. -/
def byteAt (X : Int) (i : Nat) : UInt8 := UInt8.ofNat (sh X (7 - i) % 256).toNat
theorem byteAt_toNat (X : Int) (i : Nat) : ((byteAt X i).toNat : Int) = sh X (7 - i) % 256 := by
  unfold byteAt
  rw [UInt8.toNat_ofNat_of_lt' (by simp [UInt8.size]; omega)]
  omega

/-- The eight bytes. -/
def be8 (X : Int) : List UInt8 := [byteAt X 0, byteAt X 1, byteAt X 2, byteAt X 3, byteAt X 4, byteAt X 5, byteAt X 6, byteAt X 7]
/-- The key's bytes. -/
def keyL (X : Int) (l : Bool) (f : List UInt8) : List UInt8 := be8 X ++ (if l then 1 else 0) :: f

theorem be8_length (X : Int) : (be8 X).length = 8 := rfl
theorem keyL_length (X : Int) (l : Bool) (f : List UInt8) : (keyL X l f).length = 9 + f.length := by
  unfold keyL; rw [List.length_append, be8_length, List.length_cons]; omega

theorem cmp_cons_lt {x y : UInt8} (h : (x.toNat : Int) < (y.toNat : Int)) (a b : List UInt8) : compareBytes (x :: a) (y :: b) = -1 := by
  rw [compareBytes, if_pos (UInt8.lt_iff_toNat_lt.2 (by omega))]
theorem cmp_cons_eq {x y : UInt8} (h : (x.toNat : Int) = (y.toNat : Int)) (a b : List UInt8) : compareBytes (x :: a) (y :: b) = compareBytes a b := by
  have e : x = y := UInt8.toNat_inj.1 (by omega)
  subst e
  have hlt : ¬ x < x := UInt8.lt_irrefl x
  rw [compareBytes, if_neg hlt, if_neg hlt]

/-- The k least significant bytes, most significant first. -/
def bytesFrom (X : Int) : Nat → List UInt8
  | 0 => []
  | k + 1 => UInt8.ofNat (sh X k % 256).toNat :: bytesFrom X k

theorem be8_eq (X : Int) : be8 X = bytesFrom X 8 := rfl
theorem ofNat_byte (z : Int) : ((UInt8.ofNat (z % 256).toNat).toNat : Int) = z % 256 := by
  rw [UInt8.toNat_ofNat_of_lt' (by simp [UInt8.size]; omega)]
  omega
theorem sh_mono {X Y : Int} (h : X ≤ Y) (k : Nat) : sh X k ≤ sh Y k := Int.ediv_le_ediv (Int.pow_pos (by decide)) h

theorem cmp_bytes_lt {X Y : Int} (h : X < Y) (r s : List UInt8) : ∀ k, sh X k = sh Y k → compareBytes (bytesFrom X k ++ r) (bytesFrom Y k ++ s) = -1
  | 0, e => by rw [sh_zero, sh_zero] at e; omega
  | k + 1, e => by
    rw [sh_succ, sh_succ] at e
    have hm := sh_mono (Int.le_of_lt h) k
    have hx := ofNat_byte (sh X k)
    have hy := ofNat_byte (sh Y k)
    show compareBytes (_ :: (bytesFrom X k ++ r)) (_ :: (bytesFrom Y k ++ s)) = -1
    by_cases c : sh X k % 256 = sh Y k % 256
    · rw [cmp_cons_eq (by omega)]
      exact cmp_bytes_lt h r s k (by omega)
    · exact cmp_cons_lt (by omega) _ _

theorem cmp_append_same : ∀ (a r s : List UInt8), compareBytes (a ++ r) (a ++ s) = compareBytes r s
  | [], _, _ => rfl
  | x :: a, r, s => by
    show compareBytes (x :: (a ++ r)) (x :: (a ++ s)) = _
    rw [cmp_cons_eq rfl, cmp_append_same a r s]

theorem sh_eight {X : Int} (h0 : 0 ≤ X) (h1 : X < 18446744073709551616) : sh X 8 = 0 := by
  unfold sh
  have e : (256 : Int) ^ 8 = 18446744073709551616 := by decide
  rw [e]
  omega

theorem key_lt {X Y : Int} (hx : 0 ≤ X) (h : X < Y) (hy : Y < 18446744073709551616) (l1 l2 : Bool) (f1 f2 : List UInt8) : compareBytes (keyL X l1 f1) (keyL Y l2 f2) = -1 := by
  unfold keyL
  rw [be8_eq, be8_eq]
  exact cmp_bytes_lt h _ _ 8 (by rw [sh_eight hx (by omega), sh_eight (by omega) hy])
theorem key_same (X : Int) (l1 l2 : Bool) (f1 f2 : List UInt8) : compareBytes (keyL X l1 f1) (keyL X l2 f2) = compareBytes ((if l1 then 1 else 0) :: f1) ((if l2 then 1 else 0) :: f2) := by
  unfold keyL
  exact cmp_append_same _ _ _
end Go.Proofs.Qxb6601031a
