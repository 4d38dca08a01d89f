/-
  A PROOF OF 'Rows.FnPlainDigitsAcceptsExactlyPlainTextsOfAtMost19DigitsSaid' (the frame: by the kit's program, turned to this function; the walk: ours).
-/
import Derived.Test.Qxb6000788aRows
import Derived.WalkKit
import Derived.ProofKit
import Derived.OpenShut
import Derived.ShutString
import Derived.Test.Qxb6000788aDigits
namespace Go.Proofs.Qxb6000788a.fnPlainDigitsAcceptsExactlyPlainTextsOfAtMost19Digits
open Go.ChangeShapes Go.WideShapes Go.ChangeAt Go.RowKit
open Go.ChangeMaps (open_string shut_string)
set_option linter.unusedVariables false      -- a walk need not use every 'w<i>' (that an integer argument fits its kind)

theorem own : ownKnob Try.prog.godebug = none := by kernel_rfl

/-! ### STEP 1: THE WALK -/
theorem zz_yes (s : ByteArray) (hs : s.size ≤ maxLen) (hp : Plain s) (w : World) :
    Calls Try.prog 10 #[.string s] w fun e w' => e = .returned (.bool true) ∧ w = w' :=
  (zzplain_any s hs w).mono fun e w' ⟨⟨r, he, hr⟩, hw⟩ => ⟨by rw [he, hr.2 hp], hw⟩
theorem zz_not (s : ByteArray) (hs : s.size ≤ maxLen) (hp : ¬ Plain s) (w : World) :
    Calls Try.prog 10 #[.string s] w fun e w' => e = .returned (.bool false) ∧ w = w' :=
  (zzplain_any s hs w).mono fun e w' ⟨⟨r, he, hr⟩, hw⟩ => ⟨by
    have : r = false := by
      cases r with
      | false => rfl
      | true => exact absurd (hr.1 rfl) hp
    rw [he, this], hw⟩

theorem walk (a0 : ByteArray) (w0 : a0.size ≤ maxLen) (w : World) :
    Calls Try.prog 5 #[.string a0] w fun e w' => e = .returned (.bool true) ∧ Grown w w' := by
  by_cases hb : (1048576 : Int) < (a0.size : Int)
  · go_enter Try.func5, Try.ntmps5
    go_wp2
    go_ret
    exact ⟨rfl, Grown.refl _⟩
  by_cases hc : (65536 : Int) < (a0.size : Int)
  · go_enter Try.func5, Try.ntmps5
    go_wp2
    go_ret
    exact ⟨rfl, Grown.refl _⟩
  by_cases hp : Plain a0
  · have H1 : Hid (∀ w, Calls Try.prog 10 #[.string a0] w fun e w' => e = .returned (.bool true) ∧ w = w') := zz_yes a0 w0 hp
    have H2 : Hid (∀ w, Calls Try.prog 16 #[.string a0] w fun e w' => e = .returned (.int .i64 (cnt a0 a0.size : Int)) ∧ w = w') := count_any a0 w0
    have h3 := pd_plain a0 (by omega) hp
    by_cases h19 : cnt a0 a0.size ≤ 19
    · have H3 : Hid (∀ w, Calls Try.prog 15 #[.string a0] w fun e w' => e = .returned (.tuple #[.int .u64 (num a0 a0.size : Int), .int .i32 (plc a0 a0.size : Int), .bool true]) ∧ w = w') := fun w => (h3 w).mono fun e w' ⟨hg, hw⟩ => ⟨hg.1 h19, hw⟩
      have g19 : (cnt a0 a0.size : Int) ≤ 19 := by omega
      clear h3 h19 hp w0
      go_enter Try.func5, Try.ntmps5
      go_wp2_with (first | (go_at_call 10; refine (H1.out _).mono ?_; rintro e w' ⟨rfl, rfl⟩) | (go_at_call 16; refine (H2.out _).mono ?_; rintro e w' ⟨rfl, rfl⟩) | (go_at_call 15; refine (H3.out _).mono ?_; rintro e w' ⟨rfl, rfl⟩) | (go_at_call 14; go_in))
      go_ret
      exact ⟨rfl, Grown.refl _⟩
    · have H3 : Hid (∀ w, Calls Try.prog 15 #[.string a0] w fun e w' => e = .returned (.tuple #[.int .u64 0, .int .i32 0, .bool false]) ∧ w = w') := fun w => (h3 w).mono fun e w' ⟨hg, hw⟩ => ⟨hg.2 h19, hw⟩
      have g19 : ¬ (cnt a0 a0.size : Int) ≤ 19 := by omega
      clear h3 h19 hp w0
      go_enter Try.func5, Try.ntmps5
      go_wp2_with (first | (go_at_call 10; refine (H1.out _).mono ?_; rintro e w' ⟨rfl, rfl⟩) | (go_at_call 16; refine (H2.out _).mono ?_; rintro e w' ⟨rfl, rfl⟩) | (go_at_call 15; refine (H3.out _).mono ?_; rintro e w' ⟨rfl, rfl⟩) | (go_at_call 14; go_in))
      go_ret
      exact ⟨rfl, Grown.refl _⟩
  · have H1 : Hid (∀ w, Calls Try.prog 10 #[.string a0] w fun e w' => e = .returned (.bool false) ∧ w = w') := zz_not a0 w0 hp
    have H3 : Hid (∀ w, Calls Try.prog 15 #[.string a0] w fun e w' => e = .returned (.tuple #[.int .u64 0, .int .i32 0, .bool false]) ∧ w = w') := pd_not a0 w0 hp
    clear hp w0
    go_enter Try.func5, Try.ntmps5
    go_wp2_with (first | (go_at_call 10; refine (H1.out _).mono ?_; rintro e w' ⟨rfl, rfl⟩) | (go_at_call 15; refine (H3.out _).mono ?_; rintro e w' ⟨rfl, rfl⟩) | (go_at_call 14; go_in))
    go_ret
    exact ⟨rfl, Grown.refl _⟩

/-! ### THE ROW's STEP: WRITTEN OUT: LEAVE IT -/
set_option maxRecDepth 100000 in
theorem lifted (os : Os) (started : os.Started) (H : Type) (enc : TypeId × Value → H) :
    ReturnsInHanded {} Try.checked os 5 .any (Rows.fnPlainDigitsAcceptsExactlyPlainTextsOfAtMost19DigitsSpec.pre6 enc Try.prog Try.f5 Rows.fnPlainDigitsAcceptsExactlyPlainTextsOfAtMost19DigitsRow.domain false) (Rows.fnPlainDigitsAcceptsExactlyPlainTextsOfAtMost19DigitsSpec.post enc Try.prog Try.f5 false true false false) := by
  refine returnsInHanded_of_change (C := Try.checked) own started (by kernel_rfl) Try.func5
    (ChangeSpec.witness6 (enc := enc) (C := Try.checked) false ⟨#[], #[.string ByteArray.empty], []⟩ 8 (by kernel_rfl) (by kernel_rfl) (by kernel_rfl) (by kernel_rfl)) ?_
  intro W base args ds gs before hval0 hW hcnd _
  have hval : ∀ (j : Nat) t v, Try.f5.params[j]? = some t → args[j]? = some v → Value.okWide Try.prog W .any base t v := hval0
  have hW' := hW
  obtain ⟨p, q, hA0, hV, rfl, hfz, hnd⟩ := hW
  have hA : DataW.TrodAll enc Try.prog W 0 (fun _ => true) true Try.f5.params.toList args.toList ds p := hA0
  rw [Try.params5] at hA hval
  obtain ⟨v0, vs0, d0, ds0, p0, q0, hargs, rfl, rfl, h0, r0⟩ := trodAll_cons hA
  obtain ⟨rfl, rfl, rfl⟩ := trodAll_nil r0
  obtain rfl : args = #[v0] := by cases args; simp_all
  obtain ⟨rfl, rfl⟩ := trodVars_none hV
  obtain ⟨a0, rfl, rfl, rfl, w0⟩ := open_string Try.underlying9 (hval 0 9 v0 rfl rfl) h0
  clear hA0 hval0
  simp only [List.append_nil] at hW'
  refine (walk a0 w0 W).mono fun e W' ⟨he, hg⟩ => ?_
  subst he
  exact ⟨_, rfl, post_of_same (pa := []) (pv := []) hW' (fun _ _ _ => (trodAll_cons_mk (shut_bool Try.underlying4 _) trodAll_mk0)) (fun sp _ => (trodAll_cons_mk (shut_string Try.underlying9 w0) trodAll_mk0)) (fun _ _ => rfl) rfl
    (hg.frame _) hg.2.1 (ok_one (by kernel_rfl) rfl (okWide_bool_mk Try.underlying4 _))⟩

theorem over : Rows.fnPlainDigitsAcceptsExactlyPlainTextsOfAtMost19DigitsRow.holds Try.pinned (OpenSpec.ofChange Rows.fnPlainDigitsAcceptsExactlyPlainTextsOfAtMost19DigitsSpec) :=
  OpenClaim.holds_of_wide 5 Try.f5 rfl rfl rfl rfl rfl rfl rfl ⟨rfl, rfl, rfl, rfl, rfl⟩ rfl rfl rfl rfl rfl (by kernel_rfl) Try.func5 (by kernel_rfl)
    (of_decide_eq_true (by kernel_rfl)) (by unfold Func.isWrapper; first | (rw [if_pos (by decide +kernel)]; kernel_rfl) | (rw [if_neg (by decide +kernel)]; exact ⟨rfl, rfl⟩))
    (fun os started H enc _ => lifted os started H enc)

/-- ████ THE STATEMENT ████ -/
theorem proved : Rows.FnPlainDigitsAcceptsExactlyPlainTextsOfAtMost19DigitsSaid :=
  over
end Go.Proofs.Qxb6000788a.fnPlainDigitsAcceptsExactlyPlainTextsOfAtMost19Digits
namespace Go.Proofs.Qxb6000788a
/-- The given statement, under a short name of this seat's namespace. -/
theorem fnPlainDigitsAcceptsExactlyPlainTextsOfAtMost19Digits_proved : Rows.FnPlainDigitsAcceptsExactlyPlainTextsOfAtMost19DigitsSaid := fnPlainDigitsAcceptsExactlyPlainTextsOfAtMost19Digits.proved
end Go.Proofs.Qxb6000788a
