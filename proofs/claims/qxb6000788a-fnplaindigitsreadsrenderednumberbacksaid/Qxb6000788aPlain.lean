/-
  Seat b6000788a: the plain laws: no Go in sight.
-/
namespace Go.Proofs.Qxb6000788a

/-- The byte in place k, as a number. -/
def ch (s : ByteArray) (k : Nat) : Nat := (s.data.toList.getD k 0).toNat
theorem ch_get (s : ByteArray) (k : Nat) (h : k < s.size) : (s[k]).toNat = ch s k := by
  unfold ch
  rw [List.getD_eq_getElem?_getD, List.getElem?_eq_getElem (by simpa using h)]
  rfl
theorem ch_lt (s : ByteArray) (k : Nat) : ch s k < 256 := by unfold ch; exact UInt8.toNat_lt _

/-- Digits, or digits, a point and digits. -/
structure Plain (s : ByteArray) : Prop where
  pos : s.size ≠ 0
  chars : ∀ k, k < s.size → (48 ≤ ch s k ∧ ch s k ≤ 57) ∨ ch s k = 46
  once : ∀ j k, j < s.size → k < s.size → ch s j = 46 → ch s k = 46 → j = k
  inner : ∀ k, k < s.size → ch s k = 46 → k ≠ 0 ∧ k + 1 ≠ s.size

/-- What 'isPlainDecimal' knows ahead of round k; pt: a point was met. -/
structure Inv (s : ByteArray) (k : Nat) (pt : Bool) : Prop where
  chars : ∀ j, j < k → (48 ≤ ch s j ∧ ch s j ≤ 57) ∨ ch s j = 46
  once : ∀ i j, i < k → j < k → ch s i = 46 → ch s j = 46 → i = j
  inner : ∀ j, j < k → ch s j = 46 → j ≠ 0 ∧ j + 1 ≠ s.size
  seen : pt = true ↔ ∃ j, j < k ∧ ch s j = 46

theorem Inv.zero (s : ByteArray) : Inv s 0 false := ⟨fun _ h => by omega, fun _ _ h => by omega, fun _ h => by omega, by simp⟩
theorem Inv.digit {s : ByteArray} {k : Nat} {pt : Bool} (h : Inv s k pt) (hd : 48 ≤ ch s k ∧ ch s k ≤ 57) : Inv s (k + 1) pt := by
  refine ⟨fun j hj => ?_, fun i j hi hj e1 e2 => ?_, fun j hj e => ?_, ?_⟩
  · by_cases e : j = k
    · subst e; exact .inl hd
    · exact h.chars j (by omega)
  · by_cases c1 : i = k
    · subst c1; omega
    · by_cases c2 : j = k
      · subst c2; omega
      · exact h.once i j (by omega) (by omega) e1 e2
  · by_cases c : j = k
    · subst c; omega
    · exact h.inner j (by omega) e
  · rw [h.seen]
    constructor
    · rintro ⟨j, h1, h2⟩; exact ⟨j, by omega, h2⟩
    · rintro ⟨j, h1, h2⟩
      by_cases c : j = k
      · subst c; omega
      · exact ⟨j, by omega, h2⟩
theorem Inv.dot {s : ByteArray} {k : Nat} (h : Inv s k false) (hd : ch s k = 46) (h0 : k ≠ 0) (h1 : k + 1 ≠ s.size) : Inv s (k + 1) true := by
  have none : ∀ j, j < k → ch s j ≠ 46 := fun j hj e => by
    have := h.seen.2 ⟨j, hj, e⟩
    simp at this
  refine ⟨fun j hj => ?_, fun i j hi hj e1 e2 => ?_, fun j hj e => ?_, ?_⟩
  · by_cases e : j = k
    · subst e; exact .inr hd
    · exact h.chars j (by omega)
  · by_cases c1 : i = k
    · by_cases c2 : j = k
      · omega
      · exact absurd e2 (none j (by omega))
    · exact absurd e1 (none i (by omega))
  · by_cases c : j = k
    · subst c; exact ⟨h0, h1⟩
    · exact h.inner j (by omega) e
  · simp only [true_iff]
    exact ⟨k, by omega, hd⟩
theorem Inv.bad {s : ByteArray} {k : Nat} {pt : Bool} (h : Inv s k pt) (hk : k < s.size) (hd : ¬ (48 ≤ ch s k ∧ ch s k ≤ 57)) (hb : ch s k ≠ 46 ∨ pt = true ∨ k = 0 ∨ k + 1 = s.size) : ¬ Plain s := by
  intro p
  rcases p.chars k hk with c | c
  · exact hd c
  · rcases hb with b | b | b | b
    · exact b c
    · obtain ⟨j, hj, e⟩ := h.seen.1 b
      have := p.once j k (by omega) hk e c
      omega
    · exact (p.inner k hk c).1 b
    · exact (p.inner k hk c).2 b
theorem Inv.all {s : ByteArray} {pt : Bool} (h : Inv s s.size pt) (h0 : s.size ≠ 0) : Plain s := ⟨h0, h.chars, h.once, h.inner⟩

/-! ### The model: split at the first point -/
/-- One or more digits and nothing else. -/
def Digits (s : ByteArray) : Prop := s.size ≠ 0 ∧ ∀ k, k < s.size → 48 ≤ ch s k ∧ ch s k ≤ 57
theorem ch_extract (s : ByteArray) (a b k : Nat) (hb : b ≤ s.size) (hk : a + k < b) : ch (s.extract a b) k = ch s (a + k) := by
  have h1 : k < (s.extract a b).size := by rw [ByteArray.size_extract]; omega
  rw [← ch_get _ k h1, ← ch_get s (a + k) (by omega)]
  congr 1
  exact ByteArray.getElem_extract ..
theorem plain_nodot {s : ByteArray} (h : ∀ k, k < s.size → ch s k ≠ 46) : Digits s ↔ Plain s := by
  constructor
  · rintro ⟨h0, hd⟩
    exact ⟨h0, fun k hk => .inl (hd k hk), fun j k hj hk e => absurd e (h j hj), fun k hk e => absurd e (h k hk)⟩
  · intro p
    refine ⟨p.pos, fun k hk => ?_⟩
    rcases p.chars k hk with c | c
    · exact c
    · exact absurd c (h k hk)
theorem plain_dot {s : ByteArray} (d : Nat) (hd : d < s.size) (e : ch s d = 46) (h : ∀ k, k < d → ch s k ≠ 46) :
    (Digits (s.extract 0 d) ∧ Digits (s.extract (d + 1) s.size)) ↔ Plain s := by
  have z1 : (s.extract 0 d).size = d := by rw [ByteArray.size_extract]; omega
  have z2 : (s.extract (d + 1) s.size).size = s.size - (d + 1) := by rw [ByteArray.size_extract]; omega
  have x1 : ∀ k, k < d → ch (s.extract 0 d) k = ch s k := fun k hk => by rw [ch_extract s 0 d k (by omega) (by omega), Nat.zero_add]
  have x2 : ∀ k, k < s.size - (d + 1) → ch (s.extract (d + 1) s.size) k = ch s (d + 1 + k) := fun k hk => ch_extract s (d + 1) s.size k (by omega) (by omega)
  unfold Digits
  rw [z1, z2]
  constructor
  · rintro ⟨⟨a1, a2⟩, b1, b2⟩
    have lo : ∀ k, k < d → 48 ≤ ch s k ∧ ch s k ≤ 57 := fun k hk => by rw [← x1 k hk]; exact a2 k hk
    have hi : ∀ k, d < k → k < s.size → 48 ≤ ch s k ∧ ch s k ≤ 57 := fun k h1 h2 => by
      have := b2 (k - (d + 1)) (by omega)
      rw [x2 _ (by omega), show d + 1 + (k - (d + 1)) = k by omega] at this
      exact this
    have only : ∀ k, k < s.size → ch s k = 46 → k = d := fun k hk c => by
      rcases Nat.lt_trichotomy k d with q | q | q
      · have := lo k q; omega
      · exact q
      · have := hi k q hk; omega
    refine ⟨by omega, fun k hk => ?_, fun j k hj hk c1 c2 => ?_, fun k hk c => ?_⟩
    · rcases Nat.lt_trichotomy k d with q | q | q
      · exact .inl (lo k q)
      · subst q; exact .inr e
      · exact .inl (hi k q hk)
    · rw [only j hj c1, only k hk c2]
    · have := only k hk c; omega
  · intro p
    have i := p.inner d hd e
    refine ⟨⟨i.1, fun k hk => ?_⟩, by omega, fun k hk => ?_⟩
    · rw [x1 k hk]
      rcases p.chars k (by omega) with c | c
      · exact c
      · exact absurd c (h k hk)
    · rw [x2 k hk]
      rcases p.chars (d + 1 + k) (by omega) with c | c
      · exact c
      · have := p.once d (d + 1 + k) hd (by omega) e c; omega
end Go.Proofs.Qxb6000788a
