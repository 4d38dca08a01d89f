/-
  A PROOF OF 'Rows.FnPlainDigitsReadsRenderedNumberBackSaid' (the frame: by the kit's program, turned to this function; the walk: ours).
-/
import Derived.Test.Qxb6000788aRows
import Derived.WalkKit
import Derived.ProofKit
import Derived.OpenShut
import Derived.ShutString
import Derived.Test.Qxb6000788aDigits
import Derived.Test.Qxb6000788aRender
namespace Go.Proofs.Qxb6000788a.fnPlainDigitsReadsRenderedNumberBack
open Go.ChangeShapes Go.WideShapes Go.ChangeAt Go.RowKit
open Go.ChangeMaps (open_string shut_string)
set_option linter.unusedVariables false      -- a walk need not use every 'w<i>' (that an integer argument fits its kind)

theorem own : ownKnob Try.prog.godebug = none := by kernel_rfl

/-! ### STEP 1: THE WALK -/
/-- 'PlainDigits' reads back what 'zzRender' writes. -/
theorem pd_rend (d p k : Nat) (h1 : p < k) (h2 : k ≤ 19) (h3 : d < 10 ^ k) (w : World) :
    Calls Try.prog 15 #[.string ⟨(rend d p k).toArray⟩] w fun e w' => e = .returned (.tuple #[.int .u64 (d : Int), .int .i32 (p : Int), .bool true]) ∧ w = w' := by
  obtain ⟨hp, hl⟩ := rend_reads d p k h1
  have hn := num_rend d p k h3
  have hc := cnt_rend d p k
  rw [← size_list] at hl hn hc
  have hz : (⟨(rend d p k).toArray⟩ : ByteArray).size ≤ 65536 := by
    rw [size_list, rend_length]
    unfold rlen
    split <;> omega
  refine (pd_plain _ hz hp w).mono fun e w' ⟨hg, hw⟩ => ⟨?_, hw⟩
  have := hg.1 (by rw [hc]; exact h2)
  rw [hn, hl] at this
  exact this

set_option maxHeartbeats 1000000 in
theorem walk (a0 : Int) (a1 : Int) (w0 : (Lit.int .u64 a0).wf = true) (w1 : (Lit.int .i32 a1).wf = true) (w : World) :
    Calls Try.prog 6 #[.int .u64 a0, .int .i32 a1] w fun e w' => e = .returned (.bool true) ∧ Grown w w' := by
  have bd := bounds_u64 w0
  by_cases h1 : 9999999999999999999 < a0
  · go_enter Try.func6, Try.ntmps6
    go_wp2
    go_ret
    exact ⟨rfl, Grown.refl _⟩
  by_cases h2 : a1 < 0
  · go_enter Try.func6, Try.ntmps6
    go_wp2
    go_ret
    exact ⟨rfl, Grown.refl _⟩
  by_cases h3 : 18 < a1
  · go_enter Try.func6, Try.ntmps6
    go_wp2
    go_ret
    exact ⟨rfl, Grown.refl _⟩
  obtain ⟨d, rfl⟩ := Int.eq_ofNat_of_zero_le bd.1
  obtain ⟨p, rfl⟩ := Int.eq_ofNat_of_zero_le (show 0 ≤ a1 by omega)
  have HR : Hid (∀ w, Calls Try.prog 17 #[.int .u64 (d : Int), .int .i32 (p : Int)] w fun e w' => Rendered d p e ∧ Grown w w') := render_any d p (by omega) (by omega)
  clear w0 w1
  go_enter Try.func6, Try.ntmps6
  go_wp2_with (go_at_call 17; refine (HR.out _).mono ?_; rintro e w' ⟨⟨k, h4, h5, h6, rfl⟩, hg⟩; refine Hid.out ?_)
  have HK : Hid (∀ w, Calls Try.prog 15 #[.string ⟨(rend d p k).toArray⟩] w fun e w' => e = .returned (.tuple #[.int .u64 (d : Int), .int .i32 (p : Int), .bool true]) ∧ w = w') := pd_rend d p k h4 h5 h6
  generalize (⟨(rend d p k).toArray⟩ : ByteArray) = s at HK ⊢
  clear h4 h5 h6
  refine Lib.hid ?_
  go_wp2_with (go_at_call 15; refine (HK.out _).mono ?_; rintro e w'' ⟨rfl, rfl⟩)
  go_ret
  exact ⟨rfl, hg⟩

/-! ### THE ROW's STEP: WRITTEN OUT: LEAVE IT -/
set_option maxRecDepth 100000 in
theorem lifted (os : Os) (started : os.Started) (H : Type) (enc : TypeId × Value → H) :
    ReturnsInHanded {} Try.checked os 6 .any (Rows.fnPlainDigitsReadsRenderedNumberBackSpec.pre6 enc Try.prog Try.f6 Rows.fnPlainDigitsReadsRenderedNumberBackRow.domain false) (Rows.fnPlainDigitsReadsRenderedNumberBackSpec.post enc Try.prog Try.f6 false true false false) := by
  refine returnsInHanded_of_change (C := Try.checked) own started (by kernel_rfl) Try.func6
    (ChangeSpec.witness6 (enc := enc) (C := Try.checked) false ⟨#[], #[.int .u64 0, .int .i32 0], []⟩ 8 (by kernel_rfl) (by kernel_rfl) (by kernel_rfl) (by kernel_rfl)) ?_
  intro W base args ds gs before hval0 hW hcnd _
  have hval : ∀ (j : Nat) t v, Try.f6.params[j]? = some t → args[j]? = some v → Value.okWide Try.prog W .any base t v := hval0
  have hW' := hW
  obtain ⟨p, q, hA0, hV, rfl, hfz, hnd⟩ := hW
  have hA : DataW.TrodAll enc Try.prog W 0 (fun _ => true) true Try.f6.params.toList args.toList ds p := hA0
  rw [Try.params6] at hA hval
  obtain ⟨v0, vs0, d0, ds0, p0, q0, hargs, rfl, rfl, h0, r0⟩ := trodAll_cons hA
  obtain ⟨v1, vs1, d1, ds1, p1, q1, rfl, rfl, rfl, h1, r1⟩ := trodAll_cons r0
  obtain ⟨rfl, rfl, rfl⟩ := trodAll_nil r1
  obtain rfl : args = #[v0, v1] := by cases args; simp_all
  obtain ⟨rfl, rfl⟩ := trodVars_none hV
  obtain ⟨a0, rfl, rfl, rfl, w0⟩ := open_int Try.underlying24 (hval 0 24 v0 rfl rfl) h0
  obtain ⟨a1, rfl, rfl, rfl, w1⟩ := open_int Try.underlying21 (hval 1 21 v1 rfl rfl) h1
  clear hA0 hval0
  simp only [List.append_nil] at hW'
  refine (walk a0 a1 w0 w1 W).mono fun e W' ⟨he, hg⟩ => ?_
  subst he
  exact ⟨_, rfl, post_of_same (pa := []) (pv := []) hW' (fun _ _ _ => (trodAll_cons_mk (shut_bool Try.underlying4 _) trodAll_mk0)) (fun sp _ => (trodAll_cons_mk (shut_int Try.underlying24 w0) (trodAll_cons_mk (shut_int Try.underlying21 w1) trodAll_mk0))) (fun _ _ => rfl) rfl
    (hg.frame _) hg.2.1 (ok_one (by kernel_rfl) rfl (okWide_bool_mk Try.underlying4 _))⟩

theorem over : Rows.fnPlainDigitsReadsRenderedNumberBackRow.holds Try.pinned (OpenSpec.ofChange Rows.fnPlainDigitsReadsRenderedNumberBackSpec) :=
  OpenClaim.holds_of_wide 6 Try.f6 rfl rfl rfl rfl rfl rfl rfl ⟨rfl, rfl, rfl, rfl, rfl⟩ rfl rfl rfl rfl rfl (by kernel_rfl) Try.func6 (by kernel_rfl)
    (of_decide_eq_true (by kernel_rfl)) (by unfold Func.isWrapper; first | (rw [if_pos (by decide +kernel)]; kernel_rfl) | (rw [if_neg (by decide +kernel)]; exact ⟨rfl, rfl⟩))
    (fun os started H enc _ => lifted os started H enc)

/-- ████ THE STATEMENT ████ -/
theorem proved : Rows.FnPlainDigitsReadsRenderedNumberBackSaid :=
  over
end Go.Proofs.Qxb6000788a.fnPlainDigitsReadsRenderedNumberBack
namespace Go.Proofs.Qxb6000788a
/-- The given statement, under a short name of this seat's namespace. -/
theorem fnPlainDigitsReadsRenderedNumberBack_proved : Rows.FnPlainDigitsReadsRenderedNumberBackSaid := fnPlainDigitsReadsRenderedNumberBack.proved
end Go.Proofs.Qxb6000788a
