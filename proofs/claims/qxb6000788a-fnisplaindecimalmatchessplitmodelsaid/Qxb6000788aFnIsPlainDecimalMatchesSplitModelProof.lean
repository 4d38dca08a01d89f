/-
  A PROOF OF 'Rows.FnIsPlainDecimalMatchesSplitModelSaid' (the frame: by the kit's program, turned to this function; the walk: ours).
-/
import Derived.Test.Qxb6000788aRows
import Derived.WalkKit
import Derived.ProofKit
import Derived.OpenShut
import Derived.ShutString
import Derived.Test.Qxb6000788aWalks
namespace Go.Proofs.Qxb6000788a.fnIsPlainDecimalMatchesSplitModel
open Go.ChangeShapes Go.WideShapes Go.ChangeAt Go.RowKit
open Go.ChangeMaps (open_string shut_string)
set_option linter.unusedVariables false      -- a walk need not use every 'w<i>' (that an integer argument fits its kind)

theorem own : ownKnob Try.prog.godebug = none := by kernel_rfl

theorem ret_bool {a b : Bool} (h : a = b) : Ending.returned (.bool a) = .returned (.bool b) := by rw [h]

/-! ### STEP 1: THE WALK -/
theorem walk (a0 : ByteArray) (w0 : a0.size ≤ maxLen) (w : World) :
    Calls Try.prog 3 #[.string a0] w fun e w' => e = .returned (.bool true) ∧ Grown w w' := by
  have H1 : Hid (∀ w, Calls Try.prog 10 #[.string a0] w fun e w' => Says e (Plain a0) ∧ w = w') := zzplain_any a0 w0
  have H2 : Hid (∀ w, Calls Try.prog 11 #[.string a0] w fun e w' => Says e (Plain a0) ∧ w = w') := model_any a0 w0
  clear w0
  by_cases hb : (1048576 : Int) < (a0.size : Int)
  · go_enter Try.func3, Try.ntmps3
    go_wp2
    go_ret
    exact ⟨rfl, Grown.refl _⟩
  · by_cases hc : (65536 : Int) < (a0.size : Int)
    · go_enter Try.func3, Try.ntmps3
      go_wp2
      go_ret
      exact ⟨rfl, Grown.refl _⟩
    · go_enter Try.func3, Try.ntmps3
      go_wp2_with (first | (go_at_call 10; refine (H1.out _).mono ?_; rintro e w' ⟨⟨r1, rfl, hr1⟩, rfl⟩; have HR1 : Hid (r1 = true ↔ Plain a0) := hr1; clear hr1) | (go_at_call 11; refine (H2.out _).mono ?_; rintro e w' ⟨⟨r2, rfl, hr2⟩, rfl⟩; have HR2 : Hid (r2 = true ↔ Plain a0) := hr2; clear hr2) | (go_at_call 9; go_in))
      have heq : (r1 == r2) = true := by
        have := HR1.out.trans HR2.out.symm
        cases r1 <;> cases r2 <;> simp_all
      go_ret
      exact ⟨ret_bool heq, Grown.refl _⟩

/-! ### THE ROW's STEP: WRITTEN OUT: LEAVE IT -/
set_option maxRecDepth 100000 in
theorem lifted (os : Os) (started : os.Started) (H : Type) (enc : TypeId × Value → H) :
    ReturnsInHanded {} Try.checked os 3 .any (Rows.fnIsPlainDecimalMatchesSplitModelSpec.pre6 enc Try.prog Try.f3 Rows.fnIsPlainDecimalMatchesSplitModelRow.domain false) (Rows.fnIsPlainDecimalMatchesSplitModelSpec.post enc Try.prog Try.f3 false true false false) := by
  refine returnsInHanded_of_change (C := Try.checked) own started (by kernel_rfl) Try.func3
    (ChangeSpec.witness6 (enc := enc) (C := Try.checked) false ⟨#[], #[.string ByteArray.empty], []⟩ 8 (by kernel_rfl) (by kernel_rfl) (by kernel_rfl) (by kernel_rfl)) ?_
  intro W base args ds gs before hval0 hW hcnd _
  have hval : ∀ (j : Nat) t v, Try.f3.params[j]? = some t → args[j]? = some v → Value.okWide Try.prog W .any base t v := hval0
  have hW' := hW
  obtain ⟨p, q, hA0, hV, rfl, hfz, hnd⟩ := hW
  have hA : DataW.TrodAll enc Try.prog W 0 (fun _ => true) true Try.f3.params.toList args.toList ds p := hA0
  rw [Try.params3] at hA hval
  obtain ⟨v0, vs0, d0, ds0, p0, q0, hargs, rfl, rfl, h0, r0⟩ := trodAll_cons hA
  obtain ⟨rfl, rfl, rfl⟩ := trodAll_nil r0
  obtain rfl : args = #[v0] := by cases args; simp_all
  obtain ⟨rfl, rfl⟩ := trodVars_none hV
  obtain ⟨a0, rfl, rfl, rfl, w0⟩ := open_string Try.underlying9 (hval 0 9 v0 rfl rfl) h0
  clear hA0 hval0
  simp only [List.append_nil] at hW'
  refine (walk a0 w0 W).mono fun e W' ⟨he, hg⟩ => ?_
  subst he
  exact ⟨_, rfl, post_of_same (pa := []) (pv := []) hW' (fun _ _ _ => (trodAll_cons_mk (shut_bool Try.underlying4 _) trodAll_mk0)) (fun sp _ => (trodAll_cons_mk (shut_string Try.underlying9 w0) trodAll_mk0)) (fun _ _ => rfl) rfl
    (hg.frame _) hg.2.1 (ok_one (by kernel_rfl) rfl (okWide_bool_mk Try.underlying4 _))⟩

theorem over : Rows.fnIsPlainDecimalMatchesSplitModelRow.holds Try.pinned (OpenSpec.ofChange Rows.fnIsPlainDecimalMatchesSplitModelSpec) :=
  OpenClaim.holds_of_wide 3 Try.f3 rfl rfl rfl rfl rfl rfl rfl ⟨rfl, rfl, rfl, rfl, rfl⟩ rfl rfl rfl rfl rfl (by kernel_rfl) Try.func3 (by kernel_rfl)
    (of_decide_eq_true (by kernel_rfl)) (by unfold Func.isWrapper; first | (rw [if_pos (by decide +kernel)]; kernel_rfl) | (rw [if_neg (by decide +kernel)]; exact ⟨rfl, rfl⟩))
    (fun os started H enc _ => lifted os started H enc)

/-- ████ THE STATEMENT ████ -/
theorem proved : Rows.FnIsPlainDecimalMatchesSplitModelSaid :=
  over
end Go.Proofs.Qxb6000788a.fnIsPlainDecimalMatchesSplitModel
namespace Go.Proofs.Qxb6000788a
/-- The given statement, under a short name of this seat's namespace. -/
theorem fnIsPlainDecimalMatchesSplitModel_proved : Rows.FnIsPlainDecimalMatchesSplitModelSaid := fnIsPlainDecimalMatchesSplitModel.proved
end Go.Proofs.Qxb6000788a
