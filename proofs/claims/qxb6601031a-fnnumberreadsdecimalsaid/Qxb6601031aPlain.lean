/-
  Plain mathematics of decimal digit strings: no Go in sight.
-/
import Derived.WalkKit
namespace Go.Proofs.Qxb6601031a

/-- Read digits, most significant first, on from a. -/
def valFrom (a : Int) (l : List UInt8) : Int := l.foldl (fun a c => a * 10 + ((c.toNat : Int) - 48)) a
/-- The number that a list of digit bytes writes. -/
def val (l : List UInt8) : Int := valFrom 0 l
/-- Every byte a decimal digit. -/
def Digits (l : List UInt8) : Prop := ∀ c ∈ l, 48 ≤ c.toNat ∧ c.toNat ≤ 57

theorem valFrom_cons (a : Int) (c : UInt8) (l : List UInt8) : valFrom a (c :: l) = valFrom (a * 10 + ((c.toNat : Int) - 48)) l := rfl
theorem val_nil : val [] = 0 := rfl
theorem valFrom_append (a : Int) (l m : List UInt8) : valFrom a (l ++ m) = valFrom (valFrom a l) m := List.foldl_append ..
theorem val_snoc (l : List UInt8) (c : UInt8) : val (l ++ [c]) = val l * 10 + ((c.toNat : Int) - 48) := by
  unfold val; rw [valFrom_append]; rfl

theorem valFrom_eq (l : List UInt8) : ∀ a : Int, valFrom a l = a * 10 ^ l.length + val l := by
  induction l with
  | nil => intro a; simp [valFrom, val]
  | cons c l ih =>
    intro a
    have h1 := ih (a * 10 + ((c.toNat : Int) - 48))
    have h2 := ih (0 * 10 + ((c.toNat : Int) - 48))
    unfold val at h1 h2 ⊢
    rw [valFrom_cons, valFrom_cons, h1, h2]
    rw [List.length_cons, Int.pow_succ]
    rw [Int.add_mul, Int.add_mul, Int.mul_assoc, Int.mul_comm 10 (10 ^ l.length)]
    omega

theorem val_cons (c : UInt8) (l : List UInt8) : val (c :: l) = ((c.toNat : Int) - 48) * 10 ^ l.length + val l := by
  unfold val
  rw [valFrom_cons, valFrom_eq]
  unfold val
  rw [Int.zero_mul, Int.zero_add]

theorem Digits.tail {c : UInt8} {l : List UInt8} (h : Digits (c :: l)) : Digits l := fun x hx => h x (List.mem_cons_of_mem _ hx)
theorem Digits.head {c : UInt8} {l : List UInt8} (h : Digits (c :: l)) : 48 ≤ c.toNat ∧ c.toNat ≤ 57 := h c (List.mem_cons_self ..)

theorem pow10_pos (n : Nat) : (0 : Int) < 10 ^ n := Int.pow_pos (by decide)

/-- A digit string's value lies in [0, 10^length). -/
theorem val_bounds (l : List UInt8) (h : Digits l) : 0 ≤ val l ∧ val l < 10 ^ l.length := by
  induction l with
  | nil => exact ⟨by decide, by decide⟩
  | cons c l ih =>
    have hi := ih h.tail
    have hc := h.head
    have hp := pow10_pos l.length
    rw [val_cons, List.length_cons, Int.pow_succ]
    have h0 : (0 : Int) ≤ ((c.toNat : Int) - 48) * 10 ^ l.length := Int.mul_nonneg (by omega) (by omega)
    have h9 : ((c.toNat : Int) - 48) * 10 ^ l.length ≤ 9 * 10 ^ l.length := Int.mul_le_mul_of_nonneg_right (by omega) (by omega)
    constructor <;> omega

theorem val_nonneg (l : List UInt8) (h : Digits l) : 0 ≤ val l := (val_bounds l h).1

theorem Digits.append {l m : List UInt8} (h : Digits (l ++ m)) : Digits l ∧ Digits m :=
  ⟨fun c hc => h c (List.mem_append_left _ hc), fun c hc => h c (List.mem_append_right _ hc)⟩

theorem val_append (l m : List UInt8) : val (l ++ m) = val l * 10 ^ m.length + val m := by
  unfold val; rw [valFrom_append, valFrom_eq]; rfl

/-- The value of a beginning is at most the whole's. -/
theorem val_begin_le (l m : List UInt8) (h : Digits (l ++ m)) : val l ≤ val (l ++ m) := by
  rw [val_append]
  have h1 := val_nonneg l h.append.1
  have h2 := val_nonneg m h.append.2
  have hp := pow10_pos m.length
  have : val l * 1 ≤ val l * 10 ^ m.length := Int.mul_le_mul_of_nonneg_left (by omega) h1
  omega

theorem val_take_le (l : List UInt8) (h : Digits l) (k : Nat) : val (l.take k) ≤ val l := by
  have := val_begin_le (l.take k) (l.drop k) (by rw [List.take_append_drop]; exact h)
  rwa [List.take_append_drop] at this

theorem Digits.take {l : List UInt8} (h : Digits l) (k : Nat) : Digits (l.take k) := fun c hc => h c (List.mem_of_mem_take hc)
theorem Digits.drop {l : List UInt8} (h : Digits l) (k : Nat) : Digits (l.drop k) := fun c hc => h c (List.mem_of_mem_drop hc)

/-- The digit byte of a number below ten. -/
def digitOf (d : Int) : UInt8 := UInt8.ofNat (48 + d.toNat)
theorem digitOf_toNat (d : Int) (h0 : 0 ≤ d) (h9 : d ≤ 9) : ((digitOf d).toNat : Int) = 48 + d := by
  unfold digitOf
  rw [UInt8.toNat_ofNat_of_lt' (by simp [UInt8.size]; omega)]
  omega

theorem take_snoc (s : ByteArray) (k : Nat) (h : k < s.size) : s.data.toList.take (k + 1) = s.data.toList.take k ++ [s[k]] := by
  rw [List.take_succ_eq_append_getElem (by simpa using h)]; rfl
theorem byte_mem (s : ByteArray) (k : Nat) (h : k < s.size) : s[k] ∈ s.data.toList := by
  have : s.data.toList[k]'(by simpa using h) ∈ s.data.toList := List.getElem_mem _
  exact this
theorem digit_at {s : ByteArray} (hd : Digits s.data.toList) (k : Nat) (h : k < s.size) : 48 ≤ s[k].toNat ∧ s[k].toNat ≤ 57 := hd _ (byte_mem s k h)
theorem val_take_succ (s : ByteArray) (k : Nat) (h : k < s.size) : val (s.data.toList.take (k + 1)) = val (s.data.toList.take k) * 10 + ((s[k].toNat : Int) - 48) := by rw [take_snoc s k h, val_snoc]
end Go.Proofs.Qxb6601031a
