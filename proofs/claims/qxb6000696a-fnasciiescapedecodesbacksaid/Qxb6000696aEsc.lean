/-
  Seat b6000696a: the plain function of 'asciiEscape' and the contracts of 'asciiEscape', 'ZZasciiEscape', 'jsonioB1_inEscapeDomain'.
-/
import Derived.Test.Qxb6000696aRows
import Derived.WalkKit
import Derived.ProofKit
import Derived.RegionTactic
import Derived.Laws.IdiomStrings
namespace Go.Proofs.Qxb6000696a
open Go.RowKit

/-! ### The plain function -/
/-- The lower-case hexadecimal digit of n. -/
def hexAt (n : Nat) : UInt8 := ([48, 49, 50, 51, 52, 53, 54, 55, 56, 57, 97, 98, 99, 100, 101, 102] : List UInt8).getD n 0
/-- What 'asciiEscape' writes for the byte c. -/
def esc (c : Nat) : ByteArray :=
  if c = 34 then ⟨#[92, 34]⟩ else if c = 92 then ⟨#[92, 92]⟩ else if c = 8 then ⟨#[92, 98]⟩ else if c = 12 then ⟨#[92, 102]⟩ else if c = 10 then ⟨#[92, 110]⟩
  else if c = 13 then ⟨#[92, 114]⟩ else if c = 9 then ⟨#[92, 116]⟩ else ⟨#[92, 117, 48, 48, hexAt (c / 16), hexAt (c % 16)]⟩
/-- The bytes that 'asciiEscape' documents. -/
def dom (c : Nat) : Bool := decide (c < 32) || c == 34 || c == 92

theorem esc_other {c : Nat} (n34 : c ≠ 34) (n92 : c ≠ 92) (n8 : c ≠ 8) (n12 : c ≠ 12) (n10 : c ≠ 10) (n13 : c ≠ 13) (n9 : c ≠ 9) : esc c = ⟨#[92, 117, 48, 48, hexAt (c / 16), hexAt (c % 16)]⟩ := by
  simp [esc, n34, n92, n8, n12, n10, n13, n9]

theorem hex_index (n : Nat) (h : n < 16) : (⟨#[48, 49, 50, 51, 52, 53, 54, 55, 56, 57, 97, 98, 99, 100, 101, 102]⟩ : ByteArray)[n]'h = hexAt n := by
  have : ∀ m : Fin 16, (⟨#[48, 49, 50, 51, 52, 53, 54, 55, 56, 57, 97, 98, 99, 100, 101, 102]⟩ : ByteArray)[m.1]'m.2 = hexAt m.1 := by decide
  exact this ⟨n, h⟩

/-! ### The walks -/
theorem conv6 (x y : UInt8) (w : World) : (convert 26 9 (.slice (some ⟨w.heap.size, 0, none⟩) 6 6)).run Try.prog (w.alloc (.cells #[.int .u8 92, .int .u8 117, .int .u8 48, .int .u8 48, .int .u8 (x.toNat : Int), .int .u8 (y.toNat : Int)] 5)).drew = .ok (.string ⟨#[92, 117, 48, 48, x, y]⟩) (w.alloc (.cells #[.int .u8 92, .int .u8 117, .int .u8 48, .int .u8 48, .int .u8 (x.toNat : Int), .int .u8 (y.toNat : Int)] 5)).drew := by
  refine run_convert_bytes_back _ 26 9 5 ⟨w.heap.size, 0, none⟩ 6 [92, 117, 48, 48, x, y] Try.underlying26 Try.underlying5 Try.underlying9 ?_
  intro j hj
  simp at hj
  match j, hj with
  | 0, _ => simp [Addr.add]
  | 1, _ => simp [Addr.add]
  | 2, _ => simp [Addr.add]
  | 3, _ => simp [Addr.add]
  | 4, _ => simp [Addr.add]
  | 5, _ => simp [Addr.add]

set_option maxHeartbeats 1000000 in
theorem ascii_other (c : Nat) (hc : c < 256) (m34 : c ≠ 34) (m92 : c ≠ 92) (m8 : c ≠ 8) (m12 : c ≠ 12) (m10 : c ≠ 10) (m13 : c ≠ 13) (m9 : c ≠ 9) (w : World) :
    Calls Try.prog 26 #[.int .u8 (c : Int)] w fun e w' => e = .returned (.string (esc c)) ∧ Grown w w' := by
  have b1 : 0 ≤ (c : Int) / 16 := by omega
  have b2 : (c : Int) / 16 < 16 := by omega
  have b3 : 0 ≤ (c : Int) % 16 := by omega
  have b4 : (c : Int) % 16 < 16 := by omega
  have n34 : ((c : Int) == 34) = false := by simp; omega
  have n92 : ((c : Int) == 92) = false := by simp; omega
  have n8 : ((c : Int) == 8) = false := by simp; omega
  have n12 : ((c : Int) == 12) = false := by simp; omega
  have n10 : ((c : Int) == 10) = false := by simp; omega
  have n13 : ((c : Int) == 13) = false := by simp; omega
  have n9 : ((c : Int) == 9) = false := by simp; omega
  have hcv := fun x y => conv6 x y w
  rw [esc_other m34 m92 m8 m12 m10 m13 m9]
  have e1 := hex_index (c / 16) (by omega)
  have e2 := hex_index (c % 16) (by omega)
  rw [← e1, ← e2]
  clear e1 e2
  go_enter Try.func26, Try.ntmps26
  go_wp2
  go_region
  all_goals (
    go_wp2
    go_ret
    refine ⟨?_, ?_⟩
    · rfl
    · repeat (first | exact Grown.refl _ | apply Grown.drew | apply Grown.alloc))

theorem ascii_special (c : Nat) (h : c = 34 ∨ c = 92 ∨ c = 8 ∨ c = 12 ∨ c = 10 ∨ c = 13 ∨ c = 9) (w : World) :
    Calls Try.prog 26 #[.int .u8 (c : Int)] w fun e w' => e = .returned (.string (esc c)) ∧ Grown w w' := by
  rcases h with rfl | rfl | rfl | rfl | rfl | rfl | rfl
  all_goals (
    go_enter Try.func26, Try.ntmps26
    go_wp2
    go_ret
    exact ⟨rfl, Grown.refl _⟩)

/-- 'asciiEscape', at every byte. -/
theorem ascii_any (c : Nat) (hc : c < 256) (w : World) :
    Calls Try.prog 26 #[.int .u8 (c : Int)] w fun e w' => e = .returned (.string (esc c)) ∧ Grown w w' := by
  by_cases h : c = 34 ∨ c = 92 ∨ c = 8 ∨ c = 12 ∨ c = 10 ∨ c = 13 ∨ c = 9
  · exact ascii_special c h w
  · exact ascii_other c hc (by omega) (by omega) (by omega) (by omega) (by omega) (by omega) (by omega) w

/-- 'ZZasciiEscape'. -/
theorem zzascii_any (c : Nat) (hc : c < 256) (w : World) :
    Calls Try.prog 12 #[.int .u8 (c : Int)] w fun e w' => e = .returned (.string (esc c)) ∧ Grown w w' := by
  go_enter Try.func12, Try.ntmps12
  go_wp2_with (go_at_call 26; refine (ascii_any c hc _).mono ?_; rintro e w' ⟨rfl, hg⟩)
  go_ret
  exact ⟨rfl, hg⟩

/-- 'jsonioB1_inEscapeDomain'. -/
theorem dom_any (c : Nat) (hc : c < 256) (w : World) :
    Calls Try.prog 11 #[.int .u8 (c : Int)] w fun e w' => e = .returned (.bool (dom c)) ∧ w' = w := by
  by_cases h1 : c < 32
  · have hd : dom c = true := by simp [dom, h1]
    rw [hd]
    go_enter Try.func11, Try.ntmps11
    go_wp2
    go_ret
    exact ⟨rfl, rfl⟩
  · by_cases h2 : c = 34
    · subst h2
      go_enter Try.func11, Try.ntmps11
      go_wp2
      go_ret
      exact ⟨rfl, rfl⟩
    · by_cases h3 : c = 92
      · subst h3
        go_enter Try.func11, Try.ntmps11
        go_wp2
        go_ret
        exact ⟨rfl, rfl⟩
      · have hd : dom c = false := by simp [dom, h2, h3]; omega
        have n34 : ((c : Int) == 34) = false := by simp; omega
        have n92 : ((c : Int) == 92) = false := by simp; omega
        have g1 : ¬ (c : Int) < 32 := by omega
        rw [hd]
        go_enter Try.func11, Try.ntmps11
        go_wp2
        go_ret
        exact ⟨rfl, rfl⟩
end Go.Proofs.Qxb6000696a
