/-
  Seat b6000142aD: the plain laws: a numeral behind zeros reads back; how long it is. No Go in sight.
-/
import Derived.Lib.ItoaNum
namespace Go.Proofs.Qxb6000142aDoor
open Go

/-- One more digit. -/
def stp (a : Nat) (c : UInt8) : Nat := a * 10 + (c.toNat - 48)
/-- The number that the bytes make. -/
def dval (l : List UInt8) : Nat := l.foldl stp 0
theorem stp_ge (a : Nat) (c : UInt8) : a ≤ stp a c := by unfold stp; omega
theorem fold_ge (l : List UInt8) : ∀ a, a ≤ l.foldl stp a := by
  induction l with
  | nil => intro a; exact Nat.le_refl _
  | cons c l ih => intro a; exact Nat.le_trans (stp_ge a c) (ih _)
theorem dval_snoc (l : List UInt8) (c : UInt8) : dval (l ++ [c]) = stp (dval l) c := by simp [dval, List.foldl_append]
theorem dval_take (l : List UInt8) (k : Nat) (h : k < l.length) : dval (l.take (k + 1)) = dval (l.take k) * 10 + (l[k].toNat - 48) := by
  rw [List.take_succ_eq_append_getElem h, dval_snoc]
  rfl
theorem dval_room (l : List UInt8) (k : Nat) (h : k < l.length) : dval (l.take k) * 10 + (l[k].toNat - 48) ≤ dval l := by
  rw [← dval_take l k h]
  have e : dval l = (l.drop (k + 1)).foldl stp (dval (l.take (k + 1))) := by
    unfold dval
    rw [← List.foldl_append, List.take_append_drop]
  rw [e]
  exact fold_ge _ _

theorem ofNat_nat (n : Nat) (h : n < 256) : (UInt8.ofNat n).toNat = n := by rw [UInt8.toNat_ofNat']; omega
theorem dec_small {u : Nat} (h : u < 10) : Lib.decDigits u = [UInt8.ofNat (48 + u)] := by rw [Lib.decDigits, dif_pos h]
theorem dec_big {u : Nat} (h : ¬ u < 10) : Lib.decDigits u = Lib.decDigits (u / 10) ++ [UInt8.ofNat (48 + u % 10)] := by rw [Lib.decDigits, dif_neg h]
theorem dec_val (u : Nat) : dval (Lib.decDigits u) = u := by
  induction u using Nat.strongRecOn with
  | ind u ih =>
    by_cases h : u < 10
    · rw [dec_small h]
      show stp 0 _ = _
      unfold stp
      rw [ofNat_nat _ (by omega)]
      omega
    · rw [dec_big h, dval_snoc, ih (u / 10) (by omega)]
      unfold stp
      rw [ofNat_nat _ (by omega)]
      omega
theorem dec_digits (u : Nat) : ∀ c ∈ Lib.decDigits u, 48 ≤ c.toNat ∧ c.toNat ≤ 57 := by
  induction u using Nat.strongRecOn with
  | ind u ih =>
    intro c hc
    by_cases h : u < 10
    · rw [dec_small h] at hc
      rw [List.mem_singleton] at hc
      subst hc
      rw [ofNat_nat _ (by omega)]
      omega
    · rw [dec_big h] at hc
      simp only [List.mem_append, List.mem_singleton] at hc
      rcases hc with hc | rfl
      · exact ih (u / 10) (by omega) c hc
      · rw [ofNat_nat _ (by omega)]
        omega
theorem dec_pos (u : Nat) : 0 < (Lib.decDigits u).length := by
  by_cases h : u < 10
  · rw [dec_small h]; simp
  · rw [dec_big h]; simp

/-- The tail: z zeros and the numeral of n. -/
def tail (z n : Nat) : List UInt8 := List.replicate z 48 ++ Lib.decDigits n
theorem tail_length (z n : Nat) : (tail z n).length = z + (Lib.decDigits n).length := by simp [tail]
theorem zeros_val (z : Nat) : dval (List.replicate z 48) = 0 := by
  induction z with
  | zero => rfl
  | succ z ih => rw [List.replicate_succ', dval_snoc, ih]; rfl
theorem tail_val (z n : Nat) : dval (tail z n) = n := by
  have e : dval (tail z n) = (Lib.decDigits n).foldl stp (dval (List.replicate z 48)) := by simp [dval, tail, List.foldl_append]
  rw [e, zeros_val]
  exact dec_val n
theorem tail_digits (z n : Nat) : ∀ c ∈ tail z n, 48 ≤ c.toNat ∧ c.toNat ≤ 57 := by
  intro c hc
  simp only [tail, List.mem_append, List.mem_replicate] at hc
  rcases hc with ⟨_, rfl⟩ | hc
  · decide
  · exact dec_digits n c hc
theorem tail_at (z n k : Nat) (h : k < (tail z n).length) : 48 ≤ (tail z n)[k].toNat ∧ (tail z n)[k].toNat ≤ 57 := tail_digits z n _ (List.getElem_mem h)
theorem tail_room (z n k : Nat) (h : k < (tail z n).length) : dval ((tail z n).take k) * 10 + ((tail z n)[k].toNat - 48) ≤ n := by
  have := dval_room (tail z n) k h
  rwa [tail_val] at this
theorem len_small {u : Nat} (h : u < 10) : (Lib.decDigits u).length = 1 := by rw [dec_small h]; rfl
theorem len_big {u : Nat} (h : ¬ u < 10) : (Lib.decDigits u).length = (Lib.decDigits (u / 10)).length + 1 := by rw [dec_big h]; simp
end Go.Proofs.Qxb6000142aDoor
