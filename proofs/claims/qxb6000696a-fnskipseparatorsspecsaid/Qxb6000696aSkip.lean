/-
  Seat b6000696a: the contracts of 'jsonioB1_isSep', 'skipSeparators', 'ZZskipSeparators', 'zzBytes_FnSkipSeparatorsSpec'.
-/
import Derived.Test.Qxb6000696aClone
namespace Go.Proofs.Qxb6000696a
open Go.RowKit

/-- White space, a colon or a comma. -/
def sepB (n : Int) : Bool := n == 32 || n == 9 || n == 10 || n == 13 || n == 58 || n == 44
theorem sep_cases {n : Int} (h : sepB n = true) : n = 32 ∨ n = 9 ∨ n = 10 ∨ n = 13 ∨ n = 58 ∨ n = 44 := by
  simp [sepB] at h; omega
theorem sep_no {n : Int} (h : sepB n = false) : (n == 32) = false ∧ (n == 9) = false ∧ (n == 10) = false ∧ (n == 13) = false ∧ (n == 58) = false ∧ (n == 44) = false := by
  simp [sepB] at h
  simp
  omega

theorem isSep_yes (n : Int) (h : sepB n = true) (w : World) :
    Calls Try.prog 17 #[.int .u8 n] w fun e w' => e = .returned (.bool true) ∧ w = w' := by
  rcases sep_cases h with rfl | rfl | rfl | rfl | rfl | rfl
  all_goals (
    clear h
    go_enter Try.func17, Try.ntmps17
    go_wp2
    go_ret
    exact ⟨rfl, rfl⟩)

theorem isSep_no (n : Int) (h : sepB n = false) (w : World) :
    Calls Try.prog 17 #[.int .u8 n] w fun e w' => e = .returned (.bool false) ∧ w = w' := by
  obtain ⟨q1, q2, q3, q4, q5, q6⟩ := sep_no h
  clear h
  go_enter Try.func17, Try.ntmps17
  go_wp2
  go_ret
  exact ⟨rfl, rfl⟩

/-- 'skipSeparators' from a place at or behind the end. -/
theorem skip_past (ao : Option Addr) (len cap : Nat) (i : Int) (hi : (len : Int) ≤ i) (w : World) :
    Calls Try.prog 28 #[.slice ao len cap, .int .i64 i] w fun e w' => e = .returned (.int .i64 i) ∧ w = w' := by
  go_enter Try.func28, Try.ntmps28
  go_wp2
  refine wp_loop_rounds 1 ?_
  rw [rounds_succ]
  go_wp2
  go_ret
  exact ⟨rfl, rfl⟩

set_option maxHeartbeats 1000000 in
/-- 'skipSeparators' from a place inside. -/
theorem skip_in (g len cap : Nat) (zs : List Int) (i : Nat) (hi : i < len) (hle : len ≤ 1048576) (w : World) (hc : ∀ j, j < len → w.cell? ⟨g, j, none⟩ = some (.int .u8 (zs.getD j 0))) :
    Calls Try.prog 28 #[.slice (some ⟨g, 0, none⟩) len cap, .int .i64 (i : Int)] w fun e w' => (∃ r : Nat, e = .returned (.int .i64 (r : Int)) ∧ i ≤ r ∧ r ≤ len ∧ (∀ j, i ≤ j → j < r → sepB (zs.getD j 0) = true) ∧ (r < len → sepB (zs.getD r 0) = false)) ∧ w = w' := by
  have HC : Hid (∀ j, j < len → w.cell? ⟨g, j, none⟩ = some (.int .u8 (zs.getD j 0))) := hc
  clear hc
  go_enter Try.func28, Try.ntmps28
  go_wp2
  go_loop [1] (fun t => ∃ k : Nat, i ≤ k ∧ k ≤ len ∧ t = .int .i64 k ∧ Hid (∀ j, i ≤ j → j < k → sepB (zs.getD j 0) = true)) (fun t => len - (intOf t).toNat)
  case atStart => exact ⟨i, Nat.le_refl _, by omega, rfl, fun j h1 h2 => by omega⟩
  case round =>
    obtain ⟨k, hik, hk, rfl, HR⟩ := hrel
    by_cases hlt : k < len
    · obtain ⟨v, hv⟩ : ∃ v, v = zs.getD k 0 := ⟨_, rfl⟩
      have hcx : w.cell? ⟨g, k, none⟩ = some (.int .u8 v) := by rw [hv]; exact HC.out k hlt
      have HV : Hid (v = zs.getD k 0) := hv
      clear hv
      cases hs : sepB v with
      | true =>
        have HN : Hid (∀ j, i ≤ j → j < k + 1 → sepB (zs.getD j 0) = true) := by
          intro j h1 h2
          by_cases hj : j = k
          · rw [hj, ← HV.out]; exact hs
          · exact HR.out j h1 (by omega)
        have hs' := sep_cases hs
        clear hs
        rcases hs' with rfl | rfl | rfl | rfl | rfl | rfl
        all_goals
          go_wp2
          go_round
          case rel => exact ⟨k + 1, by omega, by omega, by go_num, HN⟩
          case measure => simp [intOf]; omega
      | false =>
        obtain ⟨q1, q2, q3, q4, q5, q6⟩ := sep_no hs
        have HN : Hid (sepB (zs.getD k 0) = false) := by rw [← HV.out]; exact hs
        clear hs
        go_wp2
        go_ret
        exact ⟨⟨k, rfl, hik, hk, HR.out, fun _ => HN.out⟩, rfl⟩
    · have hkl : k = len := by omega
      subst hkl
      go_wp2
      go_ret
      exact ⟨⟨k, rfl, hik, hk, HR.out, fun h => by omega⟩, rfl⟩

/-- 'ZZskipSeparators', at or behind the end. -/
theorem zzskip_past (ao : Option Addr) (len cap : Nat) (i : Int) (hi : (len : Int) ≤ i) (w : World) :
    Calls Try.prog 16 #[.slice ao len cap, .int .i64 i] w fun e w' => e = .returned (.int .i64 i) ∧ w = w' := by
  go_enter Try.func16, Try.ntmps16
  go_wp2_with (go_at_call 28; refine (skip_past ao len cap i hi _).mono ?_; rintro e w' ⟨rfl, rfl⟩)
  go_ret
  exact ⟨rfl, rfl⟩

/-- 'ZZskipSeparators', from a place inside. -/
theorem zzskip_in (g len cap : Nat) (zs : List Int) (i : Nat) (hi : i < len) (hle : len ≤ 1048576) (w : World) (hc : ∀ j, j < len → w.cell? ⟨g, j, none⟩ = some (.int .u8 (zs.getD j 0))) :
    Calls Try.prog 16 #[.slice (some ⟨g, 0, none⟩) len cap, .int .i64 (i : Int)] w fun e w' => (∃ r : Nat, e = .returned (.int .i64 (r : Int)) ∧ i ≤ r ∧ r ≤ len ∧ (∀ j, i ≤ j → j < r → sepB (zs.getD j 0) = true) ∧ (r < len → sepB (zs.getD r 0) = false)) ∧ w = w' := by
  have HC := skip_in g len cap zs i hi hle w hc
  have HK : Hid (Calls Try.prog 28 #[.slice (some ⟨g, 0, none⟩) len cap, .int .i64 (i : Int)] w fun e w' => (∃ r : Nat, e = .returned (.int .i64 (r : Int)) ∧ i ≤ r ∧ r ≤ len ∧ (∀ j, i ≤ j → j < r → sepB (zs.getD j 0) = true) ∧ (r < len → sepB (zs.getD r 0) = false)) ∧ w = w') := HC
  clear HC hc
  go_enter Try.func16, Try.ntmps16
  go_wp2_with (go_at_call 28; refine HK.out.mono ?_; rintro e w' ⟨⟨r, rfl, h1, h2, h3, h4⟩, rfl⟩; have H3 := h3; have H3' : Hid (∀ j, i ≤ j → j < r → sepB (zs.getD j 0) = true) := H3; have H4' : Hid (r < len → sepB (zs.getD r 0) = false) := h4; clear h3 H3 h4)
  go_ret
  exact ⟨⟨r, rfl, h1, h2, H3'.out, H4'.out⟩, rfl⟩

/-- 'zzBytes_FnSkipSeparatorsSpec'. -/
theorem bytes_no (ao : Option Addr) (len cap : Nat) (i : Int) (h : (1048576 : Int) < (len : Int)) (w : World) :
    Calls Try.prog 14 #[.slice ao len cap, .int .i64 i] w fun e w' => e = .returned (.bool false) ∧ w = w' := by
  go_enter Try.func14, Try.ntmps14
  go_wp2
  go_ret
  exact ⟨rfl, rfl⟩
theorem bytes_yes (ao : Option Addr) (len cap : Nat) (i : Int) (h : ¬ (1048576 : Int) < (len : Int)) (w : World) :
    Calls Try.prog 14 #[.slice ao len cap, .int .i64 i] w fun e w' => e = .returned (.bool true) ∧ w = w' := by
  go_enter Try.func14, Try.ntmps14
  go_wp2
  go_ret
  exact ⟨rfl, rfl⟩
end Go.Proofs.Qxb6000696a
