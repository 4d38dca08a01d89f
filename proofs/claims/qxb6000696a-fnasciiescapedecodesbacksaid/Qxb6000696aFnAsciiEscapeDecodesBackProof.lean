/-
  A PROOF OF 'Rows.FnAsciiEscapeDecodesBackSaid' (the frame: by the kit's program, turned to this function; the contracts and the walk: ours).
-/
import Derived.Test.Qxb6000696aRows
import Derived.WalkKit
import Derived.ProofKit
import Derived.OpenShut
import Derived.ShutString
import Derived.Test.Qxb6000696aEsc
namespace Go.Proofs.Qxb6000696a.fnAsciiEscapeDecodesBack
open Go.ChangeShapes Go.WideShapes Go.ChangeAt Go.RowKit
open Go.ChangeMaps (open_string shut_string)
set_option linter.unusedVariables false      -- a walk need not use every 'w<i>' (that an integer argument fits its kind)

theorem own : ownKnob Try.prog.godebug = none := by kernel_rfl

/-! ### The plain part -/
theorem hexAt_low (n : Nat) (h : n < 10) : (hexAt n).toNat = 48 + n := by
  have : ∀ m : Fin 10, (hexAt m.1).toNat = 48 + m.1 := by decide
  exact this ⟨n, h⟩
theorem hexAt_high (n : Nat) (h : n < 16) (h' : 10 ≤ n) : (hexAt n).toNat = 87 + n := by
  have : ∀ m : Fin 16, 10 ≤ m.1 → (hexAt m.1).toNat = 87 + m.1 := by decide
  exact this ⟨n, h⟩ h'
/-- The number that the digits d 2, d 3, .. d (k - 1) make, to the base 16. -/
def val (d : Nat → Nat) : Nat → Nat
  | 0 | 1 | 2 => 0
  | k + 3 => val d (k + 2) * 16 + d (k + 2)
theorem val_succ (d : Nat → Nat) (k : Nat) (h : 2 ≤ k) : val d (k + 1) = val d k * 16 + d k := by
  obtain ⟨j, rfl⟩ : ∃ j, k = j + 2 := ⟨k - 2, by omega⟩
  rfl
theorem val_bound (d : Nat → Nat) (hd : ∀ k, d k < 16) (k : Nat) (h : k ≤ 6) : val d k ≤ 65535 := by
  have h2 := hd 2; have h3 := hd 3; have h4 := hd 4; have h5 := hd 5
  match k, h with
  | 0, _ | 1, _ | 2, _ => simp [val]
  | 3, _ => simp [val]; omega
  | 4, _ => simp [val]; omega
  | 5, _ => simp [val]; omega
  | 6, _ => simp [val]; omega
/-- The four digits of the escape of c. -/
def dig (c k : Nat) : Nat := if k = 4 then c / 16 else if k = 5 then c % 16 else 0
theorem dig_lt (c : Nat) (hc : c < 256) (k : Nat) : dig c k < 16 := by
  unfold dig; split
  · omega
  · split <;> omega
theorem val_dig (c : Nat) : val (dig c) 6 = c := by
  simp [val, dig]; omega

/-! ### The contracts -/
theorem ret_tup {a b : Int} (h : a = b) : Ending.returned (.tuple #[.int .i64 a, .bool true]) = .returned (.tuple #[.int .i64 b, .bool true]) := by rw [h]
/-- 'jsonioB1_hexDigit' at a lower-case hexadecimal digit. -/
theorem hexDigit_any (m : Int) (n : Nat) (h : n < 16) (hm : m = ((hexAt n).toNat : Int)) (w : World) :
    Calls Try.prog 27 #[.int .u8 m] w fun e w' => e = .returned (.tuple #[.int .i64 (n : Int), .bool true]) ∧ w' = w := by
  by_cases h10 : n < 10
  · rw [hexAt_low n h10] at hm
    obtain rfl : m = 48 + (n : Int) := by omega
    clear hm
    go_enter Try.func27, Try.ntmps27
    go_wp2
    go_ret2
    exact ⟨ret_tup (by omega), rfl⟩
  · rw [hexAt_high n h (by omega)] at hm
    obtain rfl : m = 87 + (n : Int) := by omega
    clear hm
    go_enter Try.func27, Try.ntmps27
    go_wp2
    go_ret2
    exact ⟨ret_tup (by omega), rfl⟩

set_option maxHeartbeats 1000000 in
/-- 'jsonioB1_decodeOneEscape' at an escape of six bytes with lower-case digits. -/
theorem decode_six (s : ByteArray) (d : Nat → Nat) (hd : ∀ k, d k < 16) (hz : s.size = 6) (h0 : (s[0]'(by omega)).toNat = 92) (h1 : (s[1]'(by omega)).toNat = 117) (hs : ∀ k, (h : k < s.size) → 2 ≤ k → s[k] = hexAt (d k)) (w : World) :
    Calls Try.prog 13 #[.string s] w fun e w' => e = .returned (.tuple #[.int .i64 (val d 6 : Int), .bool true]) ∧ w' = w := by
  have z2 : ((s.size : Int) == 2) = false := by rw [hz]; rfl
  have z6 : ((s.size : Int) == 6) = true := by rw [hz]; rfl
  have p0 : 0 < s.size := by omega
  have p1 : 1 < s.size := by omega
  have i0 : (0 : Int) < (s.size : Int) := by omega
  have i1 : (1 : Int) < (s.size : Int) := by omega
  have q0 : (((s[0]'p0).toNat : Int) == 92) = true := by rw [h0]; rfl
  have q1 : (((s[1]'p1).toNat : Int) == 117) = true := by rw [h1]; rfl
  have hz1 : s.size ≤ 6 := by omega
  have hz2 : 6 ≤ s.size := by omega
  have HS : Hid (∀ k, (h : k < s.size) → 2 ≤ k → s[k] = hexAt (d k)) := hs
  have HB : Hid (∀ k, d k < 16) := hd
  clear hz h0 h1 hs hd
  go_enter Try.func13, Try.ntmps13
  go_wp2
  go_loop [4, 5, 6, 7] (fun v i _ _ => ∃ k : Nat, 2 ≤ k ∧ k ≤ 6 ∧ i = .int .i64 k ∧ v = .int .i64 (val d k : Int)) (fun _ i _ _ => 6 - (intOf i).toNat)
  case atStart => exact ⟨2, by omega, by omega, rfl, rfl⟩
  case round =>
    obtain ⟨k, hk2, hk, rfl, rfl⟩ := hrel
    have vb := val_bound d HB.out k hk
    by_cases hlt : k < 6
    · have hks : k < s.size := by omega
      have HC : Hid (s[k] = hexAt (d k)) := HS.out k hks hk2
      have HV : Hid (val d (k + 1) = val d k * 16 + d k) := val_succ d k hk2
      have db := HB.out k
      go_wp2_with (go_at_call 27; refine (hexDigit_any _ (d k) (HB.out k) (by rw [HC.out]) _).mono ?_; rintro e w' ⟨rfl, rfl⟩)
      go_round
      case rel => exact ⟨k + 1, by omega, by omega, by go_num, by rw [HV.out]; go_num⟩
      case measure => simp [intOf]; omega
    · have h6 : k = 6 := by omega
      subst h6
      go_wp2
      go_ret2
      exact ⟨rfl, rfl⟩

set_option maxHeartbeats 1000000 in
/-- 'jsonioB1_decodeOneEscape' at an escape of two bytes. -/
theorem decode_two (s : ByteArray) (hz : s.size = 2) (h0 : (s[0]'(by omega)).toNat = 92) (t c : Nat) (ht : (s[1]'(by omega)).toNat = t)
    (hv : (t = 34 ∧ c = 34) ∨ (t = 92 ∧ c = 92) ∨ (t = 98 ∧ c = 8) ∨ (t = 102 ∧ c = 12) ∨ (t = 110 ∧ c = 10) ∨ (t = 114 ∧ c = 13) ∨ (t = 116 ∧ c = 9)) (w : World) :
    Calls Try.prog 13 #[.string s] w fun e w' => e = .returned (.tuple #[.int .i64 (c : Int), .bool true]) ∧ w' = w := by
  have z2 : ((s.size : Int) == 2) = true := by rw [hz]; rfl
  have p0 : 0 < s.size := by omega
  have p1 : 1 < s.size := by omega
  have i0 : (0 : Int) < (s.size : Int) := by omega
  have i1 : (1 : Int) < (s.size : Int) := by omega
  have q0 : (((s[0]'p0).toNat : Int) == 92) = true := by rw [h0]; rfl
  have q1 : ((s[1]'p1).toNat : Int) = t := by omega
  clear hz h0 ht
  rcases hv with ⟨rfl, rfl⟩ | ⟨rfl, rfl⟩ | ⟨rfl, rfl⟩ | ⟨rfl, rfl⟩ | ⟨rfl, rfl⟩ | ⟨rfl, rfl⟩ | ⟨rfl, rfl⟩
  all_goals (
    go_enter Try.func13, Try.ntmps13
    go_wp2
    go_ret2
    exact ⟨rfl, rfl⟩)

/-- 'jsonioB1_decodeOneEscape' reads every escape back. -/
theorem decode_esc (c : Nat) (hc : c < 256) (w : World) :
    Calls Try.prog 13 #[.string (esc c)] w fun e w' => e = .returned (.tuple #[.int .i64 (c : Int), .bool true]) ∧ w' = w := by
  by_cases h : c = 34 ∨ c = 92 ∨ c = 8 ∨ c = 12 ∨ c = 10 ∨ c = 13 ∨ c = 9
  · rcases h with rfl | rfl | rfl | rfl | rfl | rfl | rfl
    · exact decode_two (esc 34) rfl rfl 34 34 rfl (by omega) w
    · exact decode_two (esc 92) rfl rfl 92 92 rfl (by omega) w
    · exact decode_two (esc 8) rfl rfl 98 8 rfl (by omega) w
    · exact decode_two (esc 12) rfl rfl 102 12 rfl (by omega) w
    · exact decode_two (esc 10) rfl rfl 110 10 rfl (by omega) w
    · exact decode_two (esc 13) rfl rfl 114 13 rfl (by omega) w
    · exact decode_two (esc 9) rfl rfl 116 9 rfl (by omega) w
  · have e : esc c = ⟨#[92, 117, 48, 48, hexAt (c / 16), hexAt (c % 16)]⟩ := esc_other (by omega) (by omega) (by omega) (by omega) (by omega) (by omega) (by omega)
    rw [e]
    have := decode_six ⟨#[92, 117, 48, 48, hexAt (c / 16), hexAt (c % 16)]⟩ (dig c) (dig_lt c hc) rfl rfl rfl (fun k hk hk2 => by
      have h6 : k < 6 := hk
      match k, h6, hk2 with
      | 2, _, _ => rfl
      | 3, _, _ => rfl
      | 4, _, _ => rfl
      | 5, _, _ => rfl) w
    rw [val_dig] at this
    exact this

/-! ### STEP 1: THE WALK -/
theorem walk (a0 : Int) (w0 : (Lit.int .u8 a0).wf = true) (w : World) :
    Calls Try.prog 3 #[.int .u8 a0] w fun e w' => e = .returned (.bool true) ∧ Grown w w' := by
  have bd := bounds_u8 w0
  obtain ⟨c, rfl⟩ := Int.eq_ofNat_of_zero_le bd.1
  have hc : c < 256 := by omega
  have h11 := dom_any c hc
  by_cases hd : dom c = true
  · rw [hd] at h11
    have HD : Hid (∀ w, Calls Try.prog 11 #[.int .u8 (c : Int)] w fun e w' => e = .returned (.bool true) ∧ w' = w) := h11
    have HZ : Hid (∀ w, Calls Try.prog 12 #[.int .u8 (c : Int)] w fun e w' => e = .returned (.string (esc c)) ∧ Grown w w') := zzascii_any c hc
    have HE : Hid (∀ w, Calls Try.prog 13 #[.string (esc c)] w fun e w' => e = .returned (.tuple #[.int .i64 (c : Int), .bool true]) ∧ w' = w) := decode_esc c hc
    generalize esc c = s at HZ HE
    clear h11 hd
    go_enter Try.func3, Try.ntmps3
    go_wp2_with (first | (go_at_call 11; refine (HD.out _).mono ?_; rintro e w' ⟨rfl, rfl⟩) | (go_at_call 12; refine (HZ.out _).mono ?_; rintro e w' ⟨rfl, hg⟩) | (go_at_call 13; refine (HE.out _).mono ?_; rintro e w' ⟨rfl, rfl⟩))
    go_ret
    exact ⟨rfl, hg⟩
  · have hd' : dom c = false := by simpa using hd
    rw [hd'] at h11
    have HD : Hid (∀ w, Calls Try.prog 11 #[.int .u8 (c : Int)] w fun e w' => e = .returned (.bool false) ∧ w' = w) := h11
    clear h11 hd hd'
    go_enter Try.func3, Try.ntmps3
    go_wp2_with (go_at_call 11; refine (HD.out _).mono ?_; rintro e w' ⟨rfl, rfl⟩)
    go_ret
    exact ⟨rfl, Grown.refl _⟩

/-! ### THE ROW's STEP: WRITTEN OUT: LEAVE IT -/
set_option maxRecDepth 100000 in
theorem lifted (os : Os) (started : os.Started) (H : Type) (enc : TypeId × Value → H) :
    ReturnsInHanded {} Try.checked os 3 .any (Rows.fnAsciiEscapeDecodesBackSpec.pre6 enc Try.prog Try.f3 Rows.fnAsciiEscapeDecodesBackRow.domain false) (Rows.fnAsciiEscapeDecodesBackSpec.post enc Try.prog Try.f3 false true false false) := by
  refine returnsInHanded_of_change (C := Try.checked) own started (by kernel_rfl) Try.func3
    (ChangeSpec.witness6 (enc := enc) (C := Try.checked) false ⟨#[], #[.int .u8 0], []⟩ 8 (by kernel_rfl) (by kernel_rfl) (by kernel_rfl) (by kernel_rfl)) ?_
  intro W base args ds gs before hval0 hW hcnd _
  have hval : ∀ (j : Nat) t v, Try.f3.params[j]? = some t → args[j]? = some v → Value.okWide Try.prog W .any base t v := hval0
  have hW' := hW
  obtain ⟨p, q, hA0, hV, rfl, hfz, hnd⟩ := hW
  have hA : DataW.TrodAll enc Try.prog W 0 (fun _ => true) true Try.f3.params.toList args.toList ds p := hA0
  rw [Try.params3] at hA hval
  obtain ⟨v0, vs0, d0, ds0, p0, q0, hargs, rfl, rfl, h0, r0⟩ := trodAll_cons hA
  obtain ⟨rfl, rfl, rfl⟩ := trodAll_nil r0
  obtain rfl : args = #[v0] := by cases args; simp_all
  obtain ⟨rfl, rfl⟩ := trodVars_none hV
  obtain ⟨a0, rfl, rfl, rfl, w0⟩ := open_int Try.underlying5 (hval 0 5 v0 rfl rfl) h0
  clear hA0 hval0
  simp only [List.append_nil] at hW'
  refine (walk a0 w0 W).mono fun e W' ⟨he, hg⟩ => ?_
  subst he
  exact ⟨_, rfl, post_of_same (pa := []) (pv := []) hW' (fun _ _ _ => (trodAll_cons_mk (shut_bool Try.underlying4 _) trodAll_mk0)) (fun sp _ => (trodAll_cons_mk (shut_int Try.underlying5 w0) trodAll_mk0)) (fun _ _ => rfl) rfl
    (hg.frame _) hg.2.1 (ok_one (by kernel_rfl) rfl (okWide_bool_mk Try.underlying4 _))⟩

theorem over : Rows.fnAsciiEscapeDecodesBackRow.holds Try.pinned (OpenSpec.ofChange Rows.fnAsciiEscapeDecodesBackSpec) :=
  OpenClaim.holds_of_wide 3 Try.f3 rfl rfl rfl rfl rfl rfl rfl ⟨rfl, rfl, rfl, rfl, rfl⟩ rfl rfl rfl rfl rfl (by kernel_rfl) Try.func3 (by kernel_rfl)
    (of_decide_eq_true (by kernel_rfl)) (by unfold Func.isWrapper; first | (rw [if_pos (by decide +kernel)]; kernel_rfl) | (rw [if_neg (by decide +kernel)]; exact ⟨rfl, rfl⟩))
    (fun os started H enc _ => lifted os started H enc)

/-- ████ THE STATEMENT ████ -/
theorem proved : Rows.FnAsciiEscapeDecodesBackSaid :=
  over
end Go.Proofs.Qxb6000696a.fnAsciiEscapeDecodesBack
namespace Go.Proofs.Qxb6000696a
/-- The given statement, under a short name of this seat's namespace. -/
theorem fnAsciiEscapeDecodesBack_proved : Rows.FnAsciiEscapeDecodesBackSaid := fnAsciiEscapeDecodesBack.proved
end Go.Proofs.Qxb6000696a
