/-
  Seat b6000788a: what 'zzRender' writes, and that it reads back: plain laws, no Go in sight.
-/
import Derived.Test.Qxb6000788aNum
namespace Go.Proofs.Qxb6000788a

/-- The k-th decimal digit of d, as a byte. -/
def dgt (d k : Nat) : UInt8 := UInt8.ofNat (48 + d / 10 ^ k % 10)
/-- The last bytes of the text: k digits, with a point behind the p lowest where p is above 0. -/
def rend (d p : Nat) : Nat → List UInt8
  | 0 => []
  | k + 1 => dgt d k :: (if k = p ∧ 0 < p then 46 :: rend d p k else rend d p k)
/-- How long that is. -/
def rlen (p k : Nat) : Nat := k + if p < k ∧ 0 < p then 1 else 0

theorem dgt_nat (d k : Nat) : (dgt d k).toNat = 48 + d / 10 ^ k % 10 := by
  unfold dgt
  rw [UInt8.toNat_ofNat']
  have : d / 10 ^ k % 10 < 10 := Nat.mod_lt _ (by omega)
  omega
theorem dgt_digit (d k : Nat) : 48 ≤ (dgt d k).toNat ∧ (dgt d k).toNat ≤ 57 := by
  rw [dgt_nat]
  have : d / 10 ^ k % 10 < 10 := Nat.mod_lt _ (by omega)
  omega
theorem rend_length (d p k : Nat) : (rend d p k).length = rlen p k := by
  induction k with
  | zero => simp [rend, rlen]
  | succ k ih =>
    unfold rend
    by_cases h : k = p ∧ 0 < p
    · rw [if_pos h]
      simp only [List.length_cons, ih]
      unfold rlen
      rw [if_neg (by omega), if_pos (by omega)]
    · rw [if_neg h]
      simp only [List.length_cons, ih]
      unfold rlen
      by_cases h2 : p < k ∧ 0 < p
      · rw [if_pos h2, if_pos (by omega)]
      · rw [if_neg h2, if_neg (by omega)]
theorem rend_dot {d p : Nat} (h : 0 < p) : rend d p (p + 1) = dgt d p :: 46 :: rend d p p := by
  show dgt d p :: _ = _
  rw [if_pos ⟨rfl, h⟩]
theorem rend_plain {d p k : Nat} (h : ¬ (k = p ∧ 0 < p)) : rend d p (k + 1) = dgt d k :: rend d p k := by
  show dgt d k :: _ = _
  rw [if_neg h]

/-! ### Folds -/
def stp (a : Nat) (c : UInt8) : Nat := if 48 ≤ c.toNat ∧ c.toNat ≤ 57 then a * 10 + (c.toNat - 48) else a
def tally (a : Nat) (c : UInt8) : Nat := a + if 48 ≤ c.toNat ∧ c.toNat ≤ 57 then 1 else 0
theorem ch_list (l : List UInt8) (k : Nat) : ch ⟨l.toArray⟩ k = (l.getD k 0).toNat := rfl
theorem size_list (l : List UInt8) : (⟨l.toArray⟩ : ByteArray).size = l.length := by simp [ByteArray.size]
theorem num_fold (l : List UInt8) (k : Nat) (h : k ≤ l.length) : num ⟨l.toArray⟩ k = (l.take k).foldl stp 0 := by
  induction k with
  | zero => simp [num]
  | succ k ih =>
    have hk : k < l.length := by omega
    have e : l.getD k 0 = l[k] := by rw [List.getD_eq_getElem?_getD, List.getElem?_eq_getElem hk]; rfl
    rw [List.take_succ_eq_append_getElem hk, List.foldl_append, ← ih (by omega)]
    show num _ (k + 1) = stp _ _
    rw [← e]
    rfl
theorem cnt_fold (l : List UInt8) (k : Nat) (h : k ≤ l.length) : cnt ⟨l.toArray⟩ k = (l.take k).foldl tally 0 := by
  induction k with
  | zero => simp [cnt]
  | succ k ih =>
    have hk : k < l.length := by omega
    have e : l.getD k 0 = l[k] := by rw [List.getD_eq_getElem?_getD, List.getElem?_eq_getElem hk]; rfl
    rw [List.take_succ_eq_append_getElem hk, List.foldl_append, ← ih (by omega)]
    show cnt _ (k + 1) = tally _ _
    rw [← e]
    rfl
theorem stp_dgt (a d k : Nat) : stp a (dgt d k) = a * 10 + d / 10 ^ k % 10 := by
  unfold stp
  rw [if_pos (dgt_digit d k), dgt_nat]
  omega
theorem tally_dgt (a d k : Nat) : tally a (dgt d k) = a + 1 := by
  unfold tally
  rw [if_pos (dgt_digit d k)]
theorem mod_step (d k : Nat) : d % 10 ^ (k + 1) = d / 10 ^ k % 10 * 10 ^ k + d % 10 ^ k := by
  rw [Nat.pow_succ, Nat.mod_mul, Nat.mul_comm (10 ^ k) (d / 10 ^ k % 10)]
  omega
theorem fold_num (d p k : Nat) : ∀ a, (rend d p k).foldl stp a = a * 10 ^ k + d % 10 ^ k := by
  induction k with
  | zero => intro a; simp [rend]; exact (Nat.mod_one d).symm ▸ rfl
  | succ k ih =>
    intro a
    have fin : (rend d p k).foldl stp (stp a (dgt d k)) = a * 10 ^ (k + 1) + d % 10 ^ (k + 1) := by
      rw [ih, stp_dgt, mod_step, Nat.pow_succ, Nat.add_mul, Nat.mul_assoc, Nat.mul_comm 10 (10 ^ k)]
      omega
    by_cases h : k = p ∧ 0 < p
    · obtain ⟨rfl, h0⟩ := h
      rw [rend_dot h0]
      simp only [List.foldl_cons]
      have : stp (stp a (dgt d k)) 46 = stp a (dgt d k) := by
        have e : ∀ x, stp x 46 = x := fun x => by unfold stp; rw [if_neg (by decide)]
        exact e _
      rw [this]
      exact fin
    · rw [rend_plain h]
      exact fin
theorem fold_cnt (d p k : Nat) : ∀ a, (rend d p k).foldl tally a = a + k := by
  induction k with
  | zero => intro a; simp [rend]
  | succ k ih =>
    intro a
    have fin : (rend d p k).foldl tally (tally a (dgt d k)) = a + (k + 1) := by rw [ih, tally_dgt]; omega
    by_cases h : k = p ∧ 0 < p
    · obtain ⟨rfl, h0⟩ := h
      rw [rend_dot h0]
      simp only [List.foldl_cons]
      have : tally (tally a (dgt d k)) 46 = tally a (dgt d k) := by
        have e : ∀ x, tally x 46 = x := fun x => by unfold tally; rw [if_neg (by decide)]; rfl
        exact e _
      rw [this]
      exact fin
    · rw [rend_plain h]
      exact fin
theorem num_rend (d p k : Nat) (h : d < 10 ^ k) : num ⟨(rend d p k).toArray⟩ (rend d p k).length = d := by
  rw [num_fold _ _ (Nat.le_refl _), List.take_length, fold_num, Nat.mod_eq_of_lt h]
  omega
theorem cnt_rend (d p k : Nat) : cnt ⟨(rend d p k).toArray⟩ (rend d p k).length = k := by
  rw [cnt_fold _ _ (Nat.le_refl _), List.take_length, fold_cnt]
  omega

/-! ### Where the point stands -/
/-- The digits from place m + k - 1 down to place m. -/
def down (d m : Nat) : Nat → List UInt8
  | 0 => []
  | k + 1 => dgt d (m + k) :: down d m k
theorem down_length (d m k : Nat) : (down d m k).length = k := by
  induction k with
  | zero => rfl
  | succ k ih => simp [down, ih]
theorem down_digits (d m k : Nat) : ∀ c ∈ down d m k, 48 ≤ c.toNat ∧ c.toNat ≤ 57 := by
  induction k with
  | zero => intro c hc; simp [down] at hc
  | succ k ih =>
    intro c hc
    simp only [down, List.mem_cons] at hc
    rcases hc with rfl | hc
    · exact dgt_digit _ _
    · exact ih c hc
theorem rend_low (d p k : Nat) (h : k ≤ p ∨ p = 0) : rend d p k = down d 0 k := by
  induction k with
  | zero => rfl
  | succ k ih =>
    rw [rend_plain (by omega), ih (by omega)]
    simp [down]
theorem rend_high (d p : Nat) (hp : 0 < p) (k : Nat) : rend d p (p + k + 1) = down d p (k + 1) ++ 46 :: down d 0 p := by
  induction k with
  | zero =>
    show rend d p (p + 1) = _
    rw [rend_dot hp, rend_low d p p (.inl (Nat.le_refl _))]
    rfl
  | succ k ih =>
    show rend d p ((p + k + 1) + 1) = _
    rw [rend_plain (by omega), ih]
    rfl

theorem plain_all (l : List UInt8) (h0 : l ≠ []) (hd : ∀ c ∈ l, 48 ≤ c.toNat ∧ c.toNat ≤ 57) : Plain ⟨l.toArray⟩ ∧ plc ⟨l.toArray⟩ l.length = 0 := by
  have hc : ∀ k, k < l.length → 48 ≤ ch ⟨l.toArray⟩ k ∧ ch ⟨l.toArray⟩ k ≤ 57 := fun k hk => by
    rw [ch_list, List.getD_eq_getElem?_getD, List.getElem?_eq_getElem hk]
    exact hd _ (List.getElem_mem hk)
  constructor
  · refine ⟨?_, fun k hk => ?_, fun j k hj hk e => ?_, fun k hk e => ?_⟩
    · rw [size_list]; simpa using h0
    · rw [size_list] at hk; exact .inl (hc k hk)
    · rw [size_list] at hj; have := hc j hj; omega
    · rw [size_list] at hk; have := hc k hk; omega
  · have : ∀ k, k ≤ l.length → plc ⟨l.toArray⟩ k = 0 := by
      intro k
      induction k with
      | zero => intro _; rfl
      | succ k ih =>
        intro hk
        have := hc k (by omega)
        rw [plc_no (by omega), ih (by omega)]
    exact this _ (Nat.le_refl _)
theorem plain_split (a b : List UInt8) (ha : a ≠ []) (hb : b ≠ []) (da : ∀ c ∈ a, 48 ≤ c.toNat ∧ c.toNat ≤ 57) (db : ∀ c ∈ b, 48 ≤ c.toNat ∧ c.toNat ≤ 57) :
    Plain ⟨(a ++ 46 :: b).toArray⟩ ∧ plc ⟨(a ++ 46 :: b).toArray⟩ (a ++ 46 :: b).length = b.length := by
  have la : a.length ≠ 0 := by simpa using ha
  have lb : b.length ≠ 0 := by simpa using hb
  have hl : (a ++ 46 :: b).length = a.length + 1 + b.length := by simp; omega
  have lo : ∀ k, k < a.length → 48 ≤ ch ⟨(a ++ 46 :: b).toArray⟩ k ∧ ch ⟨(a ++ 46 :: b).toArray⟩ k ≤ 57 := fun k hk => by
    rw [ch_list, List.getD_eq_getElem?_getD, List.getElem?_append_left hk, List.getElem?_eq_getElem hk]
    exact da _ (List.getElem_mem hk)
  have mid : ch ⟨(a ++ 46 :: b).toArray⟩ a.length = 46 := by
    rw [ch_list, List.getD_eq_getElem?_getD, List.getElem?_append_right (Nat.le_refl _), Nat.sub_self]
    rfl
  have hi : ∀ k, a.length < k → k < a.length + 1 + b.length → 48 ≤ ch ⟨(a ++ 46 :: b).toArray⟩ k ∧ ch ⟨(a ++ 46 :: b).toArray⟩ k ≤ 57 := fun k h1 h2 => by
    obtain ⟨m, rfl⟩ : ∃ m, k = a.length + (m + 1) := ⟨k - a.length - 1, by omega⟩
    have hm : m < b.length := by omega
    rw [ch_list, List.getD_eq_getElem?_getD, List.getElem?_append_right (by omega), show a.length + (m + 1) - a.length = m + 1 by omega, List.getElem?_cons_succ, List.getElem?_eq_getElem hm]
    exact db _ (List.getElem_mem hm)
  have only : ∀ k, k < a.length + 1 + b.length → ch ⟨(a ++ 46 :: b).toArray⟩ k = 46 → k = a.length := fun k hk e => by
    rcases Nat.lt_trichotomy k a.length with q | q | q
    · have := lo k q; omega
    · exact q
    · have := hi k q hk; omega
  have hz : (⟨(a ++ 46 :: b).toArray⟩ : ByteArray).size = a.length + 1 + b.length := by rw [size_list, hl]
  constructor
  · refine ⟨by omega, fun k hk => ?_, fun j k hj hk e1 e2 => ?_, fun k hk e => ?_⟩
    · rw [hz] at hk
      rcases Nat.lt_trichotomy k a.length with q | q | q
      · exact .inl (lo k q)
      · subst q; exact .inr mid
      · exact .inl (hi k q hk)
    · rw [hz] at hj hk
      rw [only j hj e1, only k hk e2]
    · rw [hz] at hk ⊢
      have := only k hk e
      omega
  · have : ∀ k, k ≤ b.length → plc ⟨(a ++ 46 :: b).toArray⟩ (a.length + 1 + k) = b.length := by
      intro k
      induction k with
      | zero => intro _; rw [Nat.add_zero, plc_yes mid, hz]; omega
      | succ k ih =>
        intro hk
        have := hi (a.length + 1 + k) (by omega) (by omega)
        show plc _ ((a.length + 1 + k) + 1) = _
        rw [plc_no (by omega), ih (by omega)]
    rw [hl]
    exact this _ (Nat.le_refl _)

/-- What 'zzRender' writes is a plain decimal with p places. -/
theorem rend_reads (d p k : Nat) (h : p < k) : Plain ⟨(rend d p k).toArray⟩ ∧ plc ⟨(rend d p k).toArray⟩ (rend d p k).length = p := by
  by_cases h0 : p = 0
  · have e := rend_low d p k (.inr h0)
    rw [e]
    have := plain_all (down d 0 k) (fun c => by have := down_length d 0 k; rw [c] at this; simp at this; omega) (down_digits d 0 k)
    rw [h0]
    exact this
  · obtain ⟨j, rfl⟩ : ∃ j, k = p + j + 1 := ⟨k - p - 1, by omega⟩
    rw [rend_high d p (by omega) j]
    have := plain_split (down d p (j + 1)) (down d 0 p) (fun c => by have := down_length d p (j + 1); rw [c] at this; simp at this) (fun c => by have := down_length d 0 p; rw [c] at this; simp at this; omega) (down_digits _ _ _) (down_digits _ _ _)
    rw [down_length d 0 p] at this
    exact this
end Go.Proofs.Qxb6000788a
