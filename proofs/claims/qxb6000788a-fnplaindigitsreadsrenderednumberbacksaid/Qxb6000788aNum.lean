/-
  Seat b6000788a: the number that a text's digits make, how many there are, the places behind the point: plain laws, no Go in sight.
-/
import Derived.Test.Qxb6000788aPlain
namespace Go.Proofs.Qxb6000788a

/-- How many of the first k bytes are digits. -/
def cnt (s : ByteArray) : Nat → Nat
  | 0 => 0
  | k + 1 => cnt s k + if 48 ≤ ch s k ∧ ch s k ≤ 57 then 1 else 0
/-- The number that the digits among the first k bytes make. -/
def num (s : ByteArray) : Nat → Nat
  | 0 => 0
  | k + 1 => if 48 ≤ ch s k ∧ ch s k ≤ 57 then num s k * 10 + (ch s k - 48) else num s k
/-- The bytes behind the last point among the first k bytes; 0 where there is none. -/
def plc (s : ByteArray) : Nat → Nat
  | 0 => 0
  | k + 1 => if ch s k = 46 then s.size - 1 - k else plc s k

theorem cnt_yes {s : ByteArray} {k : Nat} (h : 48 ≤ ch s k ∧ ch s k ≤ 57) : cnt s (k + 1) = cnt s k + 1 := by simp only [cnt, if_pos h]
theorem cnt_no {s : ByteArray} {k : Nat} (h : ¬ (48 ≤ ch s k ∧ ch s k ≤ 57)) : cnt s (k + 1) = cnt s k := by simp only [cnt, if_neg h]; rfl
theorem num_yes {s : ByteArray} {k : Nat} (h : 48 ≤ ch s k ∧ ch s k ≤ 57) : num s (k + 1) = num s k * 10 + (ch s k - 48) := by simp only [num, if_pos h]
theorem num_no {s : ByteArray} {k : Nat} (h : ¬ (48 ≤ ch s k ∧ ch s k ≤ 57)) : num s (k + 1) = num s k := by simp only [num, if_neg h]
theorem plc_yes {s : ByteArray} {k : Nat} (h : ch s k = 46) : plc s (k + 1) = s.size - 1 - k := by simp only [plc, if_pos h]
theorem plc_no {s : ByteArray} {k : Nat} (h : ch s k ≠ 46) : plc s (k + 1) = plc s k := by simp only [plc, if_neg h]
theorem cnt_le (s : ByteArray) (k : Nat) : cnt s k ≤ k := by
  induction k with
  | zero => exact Nat.le_refl _
  | succ k ih => simp only [cnt]; split <;> omega
theorem cnt_mono (s : ByteArray) {a b : Nat} (h : a ≤ b) : cnt s a ≤ cnt s b := by
  induction b with
  | zero => have : a = 0 := by omega
            subst this; exact Nat.le_refl _
  | succ b ih =>
    by_cases e : a = b + 1
    · subst e; exact Nat.le_refl _
    · have := ih (by omega)
      simp only [cnt]; omega
theorem plc_le (s : ByteArray) (k : Nat) : plc s k ≤ s.size := by
  induction k with
  | zero => exact Nat.zero_le _
  | succ k ih => simp only [plc]; split <;> omega
theorem num_lt (s : ByteArray) (k : Nat) : num s k < 10 ^ cnt s k := by
  induction k with
  | zero => simp [num, cnt]
  | succ k ih =>
    by_cases h : 48 ≤ ch s k ∧ ch s k ≤ 57
    · rw [cnt_yes h, num_yes h, Nat.pow_succ]; omega
    · rw [cnt_no h, num_no h]; exact ih
theorem num_room (s : ByteArray) (k : Nat) (h : cnt s k ≤ 18) : num s k ≤ 999999999999999999 := by
  have h1 := num_lt s k
  have h2 : (10 : Nat) ^ cnt s k ≤ 10 ^ 18 := Nat.pow_le_pow_right (by omega) h
  have h3 : (10 : Nat) ^ 18 = 1000000000000000000 := rfl
  omega
theorem num_fits (s : ByteArray) (k : Nat) (h : cnt s k ≤ 19) : num s k ≤ 9999999999999999999 := by
  have h1 := num_lt s k
  have h2 : (10 : Nat) ^ cnt s k ≤ 10 ^ 19 := Nat.pow_le_pow_right (by omega) h
  have h3 : (10 : Nat) ^ 19 = 10000000000000000000 := rfl
  omega
end Go.Proofs.Qxb6000788a
