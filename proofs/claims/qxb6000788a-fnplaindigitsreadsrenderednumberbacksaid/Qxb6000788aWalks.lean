/-
  Seat b6000788a: the contracts of 'isPlainDecimal', 'ZZisPlainDecimal', 'zzIsDigit', 'zzDigitsNonEmpty', 'zzModelPlain'.
-/
import Derived.Test.Qxb6000788aRows
import Derived.Test.Qxb6000788aPlain
import Derived.WalkKit
import Derived.ProofKit
import Derived.WalkSpells
import Derived.Lib.Hide
namespace Go.Proofs.Qxb6000788a
open Go.RowKit

/-- The call returned a bool that says whether p holds. (A name, so that the walk leaves it closed.) -/
def Says (e : Ending) (p : Prop) : Prop := ∃ r : Bool, e = .returned (.bool r) ∧ (r = true ↔ p)
theorem Says.yes {p : Prop} (h : p) : Says (.returned (.bool true)) p := ⟨true, rfl, by simp; exact h⟩
theorem Says.no {p : Prop} (h : ¬ p) : Says (.returned (.bool false)) p := ⟨false, rfl, by simp; exact h⟩

theorem notEmpty {s : ByteArray} (h : s.size ≠ 0) : s.toList.isEmpty = false := by
  rw [ByteArray.toList_eq]
  have : s.data.toList.length ≠ 0 := by simpa using h
  cases hl : s.data.toList with
  | nil => rw [hl] at this; simp at this
  | cons a l => rfl

set_option maxHeartbeats 1000000 in
/-- 'isPlainDecimal' at a text that is not empty. -/
theorem plain_some (s : ByteArray) (hs : s.size ≤ maxLen) (h0 : s.size ≠ 0) (w : World) :
    Calls Try.prog 21 #[.string s] w fun e w' => Says e (Plain s) ∧ w = w' := by
  unfold maxLen at hs
  have hne := notEmpty h0
  go_enter Try.func21, Try.ntmps21
  go_wp2
  go_loop [3, 4, 5] (fun p i _ => ∃ (k : Nat) (pt : Bool), k ≤ s.size ∧ p = .bool pt ∧ i = .int .i64 k ∧ Hid (Inv s k pt)) (fun _ i _ => s.size - (intOf i).toNat)
  case atStart => exact ⟨0, false, Nat.zero_le _, rfl, rfl, Inv.zero s⟩
  case round =>
    obtain ⟨k, pt, hk, rfl, rfl, HI⟩ := hrel
    by_cases hlt : k < s.size
    · have hg := ch_get s k hlt
      by_cases hd : 48 ≤ ch s k ∧ ch s k ≤ 57
      · have q1 : (48 : Int) ≤ (s[k].toNat : Int) := by omega
        have q2 : (s[k].toNat : Int) ≤ 57 := by omega
        have HN : Hid (Inv s (k + 1) pt) := HI.out.digit hd
        clear hg hd
        go_wp2
        go_round
        case rel => exact ⟨k + 1, pt, by omega, rfl, by go_num, HN⟩
        case measure => simp [intOf]; omega
      · by_cases h46 : ch s k = 46
        · have q : (s[k].toNat : Int) = 46 := by omega
          by_cases hpt : pt = true
          · have HN : Hid (¬ Plain s) := HI.out.bad hlt hd (.inr (.inl hpt))
            subst hpt
            clear hg hd h46
            go_wp2
            go_ret
            exact ⟨Says.no HN.out, rfl⟩
          · obtain rfl : pt = false := by simpa using hpt
            by_cases hk0 : k = 0
            · have HN : Hid (¬ Plain s) := HI.out.bad hlt hd (.inr (.inr (.inl hk0)))
              have z : ((k : Int) == 0) = true := by simp; omega
              clear hg hd h46 hk0 hpt
              go_wp2
              go_ret
              exact ⟨Says.no HN.out, rfl⟩
            · have z : ((k : Int) == 0) = false := by simp; omega
              by_cases hk1 : k + 1 = s.size
              · have HN : Hid (¬ Plain s) := HI.out.bad hlt hd (.inr (.inr (.inr hk1)))
                have z1 : ((k : Int) == (s.size : Int) - 1) = true := by simp; omega
                clear hg hd h46 hk0 hk1 hpt
                go_wp2
                go_ret
                exact ⟨Says.no HN.out, rfl⟩
              · have HN : Hid (Inv s (k + 1) true) := HI.out.dot h46 hk0 hk1
                have z1 : ((k : Int) == (s.size : Int) - 1) = false := by simp; omega
                clear hg hd h46 hk0 hk1 hpt
                go_wp2
                go_round
                case rel => exact ⟨k + 1, true, by omega, rfl, by go_num, HN⟩
                case measure => simp [intOf]; omega
        · have HN : Hid (¬ Plain s) := HI.out.bad hlt hd (.inl h46)
          have q : ((s[k].toNat : Int) != 46) = true := by rw [bne_iff_ne]; omega
          by_cases hlow : ch s k < 48
          · have q1 : ¬ (48 : Int) ≤ (s[k].toNat : Int) := by omega
            clear hg hd h46 hlow
            go_wp2
            go_ret
            exact ⟨Says.no HN.out, rfl⟩
          · have q1 : (48 : Int) ≤ (s[k].toNat : Int) := by omega
            have q2 : ¬ (s[k].toNat : Int) ≤ 57 := by omega
            clear hg hd h46 hlow
            go_wp2
            go_ret
            exact ⟨Says.no HN.out, rfl⟩
    · have hkl : k = s.size := by omega
      subst hkl
      have HP : Hid (Plain s) := HI.out.all h0
      go_wp2
      go_ret
      exact ⟨Says.yes HP.out, rfl⟩

/-- 'isPlainDecimal' at the empty text. -/
theorem plain_none (s : ByteArray) (h0 : s.size = 0) (w : World) :
    Calls Try.prog 21 #[.string s] w fun e w' => Says e (Plain s) ∧ w = w' := by
  obtain rfl : s = ByteArray.empty := by
    cases s with | mk d => have : d = #[] := Array.eq_empty_of_size_eq_zero h0
                           subst this; rfl
  have HP : Hid (¬ Plain ByteArray.empty) := fun p => p.pos h0
  clear h0
  go_enter Try.func21, Try.ntmps21
  go_wp2
  refine wp_loop_rounds 1 ?_
  rw [rounds_succ]
  go_wp2
  go_ret
  exact ⟨Says.no HP.out, rfl⟩

/-- 'isPlainDecimal' at every text. -/
theorem plain_any (s : ByteArray) (hs : s.size ≤ maxLen) (w : World) :
    Calls Try.prog 21 #[.string s] w fun e w' => Says e (Plain s) ∧ w = w' := by
  by_cases h0 : s.size = 0
  · exact plain_none s h0 w
  · exact plain_some s hs h0 w

/-- 'ZZisPlainDecimal'. -/
theorem zzplain_any (s : ByteArray) (hs : s.size ≤ maxLen) (w : World) :
    Calls Try.prog 10 #[.string s] w fun e w' => Says e (Plain s) ∧ w = w' := by
  have HK : Hid (∀ w, Calls Try.prog 21 #[.string s] w fun e w' => Says e (Plain s) ∧ w = w') := plain_any s hs
  clear hs
  go_enter Try.func10, Try.ntmps10
  go_wp2_with (go_at_call 21; refine (HK.out _).mono ?_; rintro e w' ⟨⟨r, rfl, hr⟩, rfl⟩; have HR : Hid (r = true ↔ Plain s) := hr; clear hr)
  go_ret
  exact ⟨⟨r, rfl, HR.out⟩, rfl⟩

/-- 'zzIsDigit'. -/
theorem isDigit_yes (n : Int) (h1 : 48 ≤ n) (h2 : n ≤ 57) (w : World) :
    Calls Try.prog 23 #[.int .u8 n] w fun e w' => e = .returned (.bool true) ∧ w = w' := by
  go_enter Try.func23, Try.ntmps23
  go_wp2
  go_ret
  exact ⟨rfl, rfl⟩
theorem isDigit_no (n : Int) (h : n < 48 ∨ 57 < n) (w : World) :
    Calls Try.prog 23 #[.int .u8 n] w fun e w' => e = .returned (.bool false) ∧ w = w' := by
  rcases h with h | h
  · have q : ¬ 48 ≤ n := by omega
    go_enter Try.func23, Try.ntmps23
    go_wp2
    go_ret
    exact ⟨rfl, rfl⟩
  · have q1 : 48 ≤ n := by omega
    have q2 : ¬ n ≤ 57 := by omega
    go_enter Try.func23, Try.ntmps23
    go_wp2
    go_ret
    exact ⟨rfl, rfl⟩

set_option maxHeartbeats 1000000 in
/-- 'zzDigitsNonEmpty'. -/
theorem digits_any (s : ByteArray) (hs : s.size ≤ maxLen) (w : World) :
    Calls Try.prog 22 #[.string s] w fun e w' => Says e (Digits s) ∧ w = w' := by
  unfold maxLen at hs
  by_cases h0 : s.size = 0
  · have z : ((s.size : Int) == 0) = true := beq_iff_eq.2 (by omega)
    have HP : Hid (¬ Digits s) := fun p => p.1 h0
    clear h0
    go_enter Try.func22, Try.ntmps22
    go_wp2
    go_ret
    exact ⟨Says.no HP.out, rfl⟩
  · have z : ((s.size : Int) == 0) = false := beq_eq_false_iff_ne.2 (by omega)
    have H0 : Hid (s.size ≠ 0) := h0
    clear h0
    go_enter Try.func22, Try.ntmps22
    go_wp2
    go_loop [3] (fun i => ∃ k : Nat, k ≤ s.size ∧ i = .int .i64 k ∧ Hid (∀ j, j < k → 48 ≤ ch s j ∧ ch s j ≤ 57)) (fun i => s.size - (intOf i).toNat)
    case atStart => exact ⟨0, Nat.zero_le _, rfl, fun j hj => by omega⟩
    case round =>
      obtain ⟨k, hk, rfl, HI⟩ := hrel
      by_cases hlt : k < s.size
      · have hg := ch_get s k hlt
        by_cases hd : 48 ≤ ch s k ∧ ch s k ≤ 57
        · have HN : Hid (∀ j, j < k + 1 → 48 ≤ ch s j ∧ ch s j ≤ 57) := fun j hj => by
            by_cases e : j = k
            · rw [e]; exact hd
            · exact HI.out j (by omega)
          have Q : Hid ((48 : Int) ≤ (s[k].toNat : Int) ∧ (s[k].toNat : Int) ≤ 57) := ⟨by omega, by omega⟩
          clear hg hd
          go_wp2_with (go_at_call 23; refine (isDigit_yes _ Q.out.1 Q.out.2 _).mono ?_; rintro e w' ⟨rfl, rfl⟩)
          go_round
          case rel => exact ⟨k + 1, by omega, by go_num, HN⟩
          case measure => simp [intOf]; omega
        · have HN : Hid (¬ Digits s) := fun p => hd (p.2 k hlt)
          have Q : Hid ((s[k].toNat : Int) < 48 ∨ 57 < (s[k].toNat : Int)) := show _ ∨ _ by omega
          clear hg hd
          go_wp2_with (go_at_call 23; refine (isDigit_no _ Q.out _).mono ?_; rintro e w' ⟨rfl, rfl⟩)
          go_ret
          exact ⟨Says.no HN.out, rfl⟩
      · have hkl : k = s.size := by omega
        subst hkl
        have HP : Hid (Digits s) := ⟨H0.out, HI.out⟩
        go_wp2
        go_ret
        exact ⟨Says.yes HP.out, rfl⟩

set_option maxHeartbeats 1000000 in
/-- 'zzModelPlain'. -/
theorem model_any (s : ByteArray) (hs : s.size ≤ maxLen) (w : World) :
    Calls Try.prog 11 #[.string s] w fun e w' => Says e (Plain s) ∧ w = w' := by
  have HS : Hid (s.size ≤ maxLen) := hs
  unfold maxLen at hs
  go_enter Try.func11, Try.ntmps11
  go_wp2
  go_loop [3, 4] (fun d i => ∃ k : Nat, k ≤ s.size ∧ i = .int .i64 k ∧ d = .int .i64 (-1) ∧ Hid (∀ j, j < k → ch s j ≠ 46)) (fun _ i => s.size - (intOf i).toNat)
  case atStart => exact ⟨0, Nat.zero_le _, rfl, rfl, fun j hj => by omega⟩
  case round =>
    obtain ⟨k, hk, rfl, rfl, HI⟩ := hrel
    by_cases hlt : k < s.size
    · have hg := ch_get s k hlt
      by_cases hd : ch s k = 46
      · have q : ((s[k].toNat : Int) == 46) = true := by simp; omega
        have HD : Hid (ch s k = 46) := hd
        clear hg hd
        have HP : Hid ((Digits (s.extract 0 k) ∧ Digits (s.extract (k + 1) s.size)) ↔ Plain s) := plain_dot k hlt HD.out HI.out
        have H1 : Hid (∀ w, Calls Try.prog 22 #[.string (s.extract 0 k)] w fun e w' => Says e (Digits (s.extract 0 k)) ∧ w = w') := digits_any _ (by rw [ByteArray.size_extract]; unfold maxLen; omega)
        have H2 : Hid (∀ w, Calls Try.prog 22 #[.string (s.extract (k + 1) s.size)] w fun e w' => Says e (Digits (s.extract (k + 1) s.size)) ∧ w = w') := digits_any _ (by rw [ByteArray.size_extract]; unfold maxLen; omega)
        go_wp2_with fail
        refine (H1.out _).mono ?_
        rintro e w' ⟨⟨r1, rfl, hr1⟩, rfl⟩
        have HR1 : Hid (r1 = true ↔ Digits (s.extract 0 k)) := hr1
        clear hr1
        cases r1 with
        | false =>
          have HF : Hid (¬ Plain s) := fun p => by
            have := HR1.out.2 (HP.out.2 p).1
            simp at this
          go_wp2
          go_ret
          exact ⟨Says.no HF.out, rfl⟩
        | true =>
          go_wp2_with fail
          refine (H2.out _).mono ?_
          rintro e w' ⟨⟨r2, rfl, hr2⟩, rfl⟩
          have HR2 : Hid (r2 = true ↔ Digits (s.extract (k + 1) s.size)) := hr2
          clear hr2
          go_wp2
          go_ret
          exact ⟨⟨r2, rfl, HR2.out.trans ⟨fun h => HP.out.1 ⟨HR1.out.1 (by simp), h⟩, fun p => (HP.out.2 p).2⟩⟩, rfl⟩
      · have q : ((s[k].toNat : Int) == 46) = false := by simp; omega
        have HN : Hid (∀ j, j < k + 1 → ch s j ≠ 46) := fun j hj => by
          by_cases e : j = k
          · rw [e]; exact hd
          · exact HI.out j (by omega)
        clear hg hd
        go_wp2
        go_round
        case rel => exact ⟨k + 1, by omega, by go_num, rfl, HN⟩
        case measure => simp [intOf]; omega
    · have hkl : k = s.size := by omega
      subst hkl
      have HK : Hid (∀ w, Calls Try.prog 22 #[.string s] w fun e w' => Says e (Digits s) ∧ w = w') := digits_any s HS.out
      have HP : Hid (Digits s ↔ Plain s) := plain_nodot HI.out
      go_wp2_with (go_at_call 22; refine (HK.out _).mono ?_; rintro e w' ⟨⟨r, rfl, hr⟩, rfl⟩; have HR : Hid (r = true ↔ Digits s) := hr; clear hr)
      go_ret
      exact ⟨⟨r, rfl, HR.out.trans HP.out⟩, rfl⟩
end Go.Proofs.Qxb6000788a
