/-
  Seat b6000788a: the contracts of 'zzCountDigits' and 'PlainDigits'.
-/
import Derived.Test.Qxb6000788aWalks
import Derived.Test.Qxb6000788aNum
namespace Go.Proofs.Qxb6000788a
open Go.RowKit

theorem ret_int {k : IntKind} {a b : Int} (h : a = b) : Ending.returned (.int k a) = .returned (.int k b) := by rw [h]

set_option maxHeartbeats 1000000 in
/-- 'zzCountDigits'. -/
theorem count_any (s : ByteArray) (hs : s.size ≤ maxLen) (w : World) :
    Calls Try.prog 16 #[.string s] w fun e w' => e = .returned (.int .i64 (cnt s s.size : Int)) ∧ w = w' := by
  unfold maxLen at hs
  go_enter Try.func16, Try.ntmps16
  go_wp2
  go_loop [3, 4] (fun n i => ∃ k : Nat, k ≤ s.size ∧ i = .int .i64 k ∧ n = .int .i64 (cnt s k : Int)) (fun _ i => s.size - (intOf i).toNat)
  case atStart => exact ⟨0, Nat.zero_le _, rfl, rfl⟩
  case round =>
    obtain ⟨k, hk, rfl, rfl⟩ := hrel
    have hb := cnt_le s k
    by_cases hlt : k < s.size
    · have hg := ch_get s k hlt
      by_cases hd : 48 ≤ ch s k ∧ ch s k ≤ 57
      · have HN : Hid (cnt s (k + 1) = cnt s k + 1) := cnt_yes hd
        have Q : Hid ((48 : Int) ≤ (s[k].toNat : Int) ∧ (s[k].toNat : Int) ≤ 57) := ⟨by omega, by omega⟩
        clear hg hd
        go_wp2_with (go_at_call 23; refine (isDigit_yes _ Q.out.1 Q.out.2 _).mono ?_; rintro e w' ⟨rfl, rfl⟩)
        go_round
        case rel => exact ⟨k + 1, by omega, by go_num, by rw [HN.out]; go_num⟩
        case measure => simp [intOf]; omega
      · have HN : Hid (cnt s (k + 1) = cnt s k) := cnt_no hd
        have Q : Hid ((s[k].toNat : Int) < 48 ∨ 57 < (s[k].toNat : Int)) := show _ ∨ _ by omega
        clear hg hd
        go_wp2_with (go_at_call 23; refine (isDigit_no _ Q.out _).mono ?_; rintro e w' ⟨rfl, rfl⟩)
        go_round
        case rel => exact ⟨k + 1, by omega, by go_num, by rw [HN.out]⟩
        case measure => simp [intOf]; omega
    · have hkl : k = s.size := by omega
      subst hkl
      go_wp2
      go_ret
      exact ⟨rfl, rfl⟩

theorem plain_yes (s : ByteArray) (hs : s.size ≤ maxLen) (hp : Plain s) (w : World) :
    Calls Try.prog 21 #[.string s] w fun e w' => e = .returned (.bool true) ∧ w = w' :=
  (plain_any s hs w).mono fun e w' ⟨⟨r, he, hr⟩, hw⟩ => ⟨by rw [he, hr.2 hp], hw⟩
theorem plain_not (s : ByteArray) (hs : s.size ≤ maxLen) (hp : ¬ Plain s) (w : World) :
    Calls Try.prog 21 #[.string s] w fun e w' => e = .returned (.bool false) ∧ w = w' :=
  (plain_any s hs w).mono fun e w' ⟨⟨r, he, hr⟩, hw⟩ => ⟨by
    have : r = false := by
      cases r with
      | false => rfl
      | true => exact absurd (hr.1 rfl) hp
    rw [he, this], hw⟩

/-- 'PlainDigits' refuses what is no plain decimal. -/
theorem pd_not (s : ByteArray) (hs : s.size ≤ maxLen) (hp : ¬ Plain s) (w : World) :
    Calls Try.prog 15 #[.string s] w fun e w' => e = .returned (.tuple #[.int .u64 0, .int .i32 0, .bool false]) ∧ w = w' := by
  have HK : Hid (∀ w, Calls Try.prog 21 #[.string s] w fun e w' => e = .returned (.bool false) ∧ w = w') := plain_not s hs hp
  clear hs hp
  go_enter Try.func15, Try.ntmps15
  go_wp2_with (go_at_call 21; refine (HK.out _).mono ?_; rintro e w' ⟨rfl, rfl⟩)
  go_ret3
  exact ⟨rfl, rfl⟩

/-- What 'PlainDigits' gives for a plain decimal. (A name, so that the walk leaves it closed.) -/
def Gives (s : ByteArray) (e : Ending) : Prop :=
  (cnt s s.size ≤ 19 → e = .returned (.tuple #[.int .u64 (num s s.size : Int), .int .i32 (plc s s.size : Int), .bool true])) ∧
  (¬ cnt s s.size ≤ 19 → e = .returned (.tuple #[.int .u64 0, .int .i32 0, .bool false]))
theorem Gives.yes {s : ByteArray} (h : cnt s s.size ≤ 19) : Gives s (.returned (.tuple #[.int .u64 (num s s.size : Int), .int .i32 (plc s s.size : Int), .bool true])) := ⟨fun _ => rfl, fun n => absurd h n⟩
theorem Gives.no {s : ByteArray} (h : ¬ cnt s s.size ≤ 19) : Gives s (.returned (.tuple #[.int .u64 0, .int .i32 0, .bool false])) := ⟨fun n => absurd n h, fun _ => rfl⟩

set_option maxHeartbeats 1000000 in
/-- 'PlainDigits' at a plain decimal of at most 65536 bytes. -/
theorem pd_plain (s : ByteArray) (hs : s.size ≤ 65536) (hp : Plain s) (w : World) :
    Calls Try.prog 15 #[.string s] w fun e w' => Gives s e ∧ w = w' := by
  have HK : Hid (∀ w, Calls Try.prog 21 #[.string s] w fun e w' => e = .returned (.bool true) ∧ w = w') := plain_yes s (by unfold maxLen; omega) hp
  have HP : Hid (Plain s) := hp
  clear hp
  go_enter Try.func15, Try.ntmps15
  go_wp2_with (go_at_call 21; refine (HK.out _).mono ?_; rintro e w' ⟨rfl, rfl⟩)
  go_loop [2, 3, 5, 6] (fun d p c i => ∃ k : Nat, k ≤ s.size ∧ i = .int .i64 k ∧ d = .int .u64 (num s k : Int) ∧ p = .int .i32 (plc s k : Int) ∧ c = .int .i64 (cnt s k : Int) ∧ cnt s k ≤ 19) (fun _ _ _ i => s.size - (intOf i).toNat)
  case atStart => exact ⟨0, Nat.zero_le _, rfl, rfl, rfl, rfl, by simp [cnt]⟩
  case round =>
    obtain ⟨k, hk, rfl, rfl, rfl, rfl, hc⟩ := hrel
    by_cases hlt : k < s.size
    · have hg := ch_get s k hlt
      rcases HP.out.chars k hlt with hd | hd
      · have q : ((s[k].toNat : Int) == 46) = false := beq_eq_false_iff_ne.2 (by omega)
        have q1 : (48 : Int) ≤ (s[k].toNat : Int) := by omega
        have q2 : (s[k].toNat : Int) ≤ 57 := by omega
        by_cases h19 : cnt s k = 19
        · have c19 : ((cnt s k : Int) == 19) = true := beq_iff_eq.2 (by omega)
          have HN : Hid (¬ cnt s s.size ≤ 19) := show ¬ _ by
            have h1 := cnt_yes hd
            have h2 := cnt_mono s (show k + 1 ≤ s.size by omega)
            omega
          clear hg hd h19
          go_wp2
          go_ret3
          exact ⟨Gives.no HN.out, rfl⟩
        · have c19 : ((cnt s k : Int) == 19) = false := beq_eq_false_iff_ne.2 (by omega)
          have hr := num_room s k (by omega)
          have HC : Hid (cnt s (k + 1) = cnt s k + 1) := cnt_yes hd
          have HN : Hid (num s (k + 1) = num s k * 10 + (s[k].toNat - 48)) := by rw [hg]; exact num_yes hd
          have HL : Hid (plc s (k + 1) = plc s k) := plc_no (by omega)
          have HC19 : Hid (cnt s k ≤ 18) := show _ ≤ _ by omega
          clear hg hd h19
          go_wp2
          go_round
          case rel => exact ⟨k + 1, by omega, by go_num, by rw [HN.out]; go_num, by rw [HL.out], by rw [HC.out]; go_num, by rw [HC.out]; have := HC19.out; omega⟩
          case measure => simp [intOf]; omega
      · have q : ((s[k].toNat : Int) == 46) = true := beq_iff_eq.2 (by omega)
        have HC : Hid (cnt s (k + 1) = cnt s k) := cnt_no (by omega)
        have HN : Hid (num s (k + 1) = num s k) := num_no (by omega)
        have HL : Hid (plc s (k + 1) = s.size - 1 - k) := plc_yes hd
        clear hg hd
        go_wp2
        go_round
        case rel => exact ⟨k + 1, by omega, by go_num, by rw [HN.out], by rw [HL.out]; go_num, by rw [HC.out], by rw [HC.out]; exact hc⟩
        case measure => simp [intOf]; omega
    · have hkl : k = s.size := by omega
      subst hkl
      go_wp2
      go_ret3
      exact ⟨Gives.yes hc, rfl⟩
end Go.Proofs.Qxb6000788a
