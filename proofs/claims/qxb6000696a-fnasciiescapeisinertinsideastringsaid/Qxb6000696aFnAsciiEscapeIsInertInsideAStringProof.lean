/-
  A PROOF OF 'Rows.FnAsciiEscapeIsInertInsideAStringSaid' (the frame: by the kit's program, turned to this function; the plain law and the walk: ours).
-/
import Derived.Test.Qxb6000696aRows
import Derived.WalkKit
import Derived.ProofKit
import Derived.OpenShut
import Derived.ShutString
import Derived.Test.Qxb6000696aEsc
namespace Go.Proofs.Qxb6000696a.fnAsciiEscapeIsInertInsideAString
open Go.ChangeShapes Go.WideShapes Go.ChangeAt Go.RowKit
open Go.ChangeMaps (open_string shut_string)
set_option linter.unusedVariables false      -- a walk need not use every 'w<i>' (that an integer argument fits its kind)

theorem own : ownKnob Try.prog.godebug = none := by kernel_rfl

/-! ### THE PLAIN LAW: an escape is 2 or 6 printable bytes, opens with a backslash, and holds a backslash or a quote only in place 1 -/
def inert (s : ByteArray) : Prop :=
  (s.size = 2 ∨ s.size = 6) ∧ (∀ h : 0 < s.size, s[0].toNat = 92) ∧ ∀ k, (h : k < s.size) → 1 ≤ k → 32 ≤ s[k].toNat ∧ s[k].toNat ≤ 126 ∧ (k ≠ 1 → s[k].toNat ≠ 92 ∧ s[k].toNat ≠ 34)
def inertB (s : ByteArray) : Bool :=
  (s.size == 2 || s.size == 6) && (s.data.toList.getD 0 0).toNat == 92 &&
    (List.range 6).all fun k => !decide (k < s.size) || !decide (1 ≤ k) || (decide (32 ≤ (s.data.toList.getD k 0).toNat) && decide ((s.data.toList.getD k 0).toNat ≤ 126) && (k == 1 || ((s.data.toList.getD k 0).toNat != 92 && (s.data.toList.getD k 0).toNat != 34)))
theorem getD_byte (s : ByteArray) (k : Nat) (h : k < s.size) : s.data.toList.getD k 0 = s[k] := by
  rw [List.getD_eq_getElem?_getD, List.getElem?_eq_getElem (by simpa using h)]
  rfl
theorem inert_of (s : ByteArray) (h : inertB s = true) : inert s := by
  simp only [inertB, Bool.and_eq_true, Bool.or_eq_true, beq_iff_eq, List.all_eq_true, List.mem_range, Bool.not_eq_true', decide_eq_false_iff_not, decide_eq_true_eq, bne_iff_ne] at h
  obtain ⟨⟨h1, h2⟩, h3⟩ := h
  refine ⟨h1, fun hp => ?_, fun k hk hk1 => ?_⟩
  · rw [← getD_byte s 0 hp]; exact h2
  · have := h3 k (by omega)
    rw [getD_byte s k hk] at this
    omega
theorem esc_inert (c : Nat) (hc : c < 256) (hd : dom c = true) : inert (esc c) := by
  refine inert_of _ ?_
  have : ∀ c : Fin 256, dom c.1 = true → inertB (esc c.1) = true := by decide +kernel
  exact this ⟨c, hc⟩ hd

/-! ### STEP 1: THE WALK -/
set_option maxHeartbeats 1000000 in
theorem walk_in (c : Nat) (hc : c < 256) (hd : dom c = true) (w : World) :
    Calls Try.prog 4 #[.int .u8 (c : Int)] w fun e w' => e = .returned (.bool true) ∧ Grown w w' := by
  obtain ⟨hsz, h92, hall⟩ := esc_inert c hc hd
  have HZ : Hid (∀ w, Calls Try.prog 12 #[.int .u8 (c : Int)] w fun e w' => e = .returned (.string (esc c)) ∧ Grown w w') := zzascii_any c hc
  have HD : Hid (∀ w, Calls Try.prog 11 #[.int .u8 (c : Int)] w fun e w' => e = .returned (.bool true) ∧ w' = w) := by
    intro w; have := dom_any c hc w; rw [hd] at this; exact this
  generalize esc c = s at hsz h92 hall HZ
  have hp : 0 < s.size := by omega
  have hpi : (0 : Int) < (s.size : Int) := by omega
  have h0 : (((s[0]'hp).toNat : Int) != 92) = false := by rw [h92 hp]; rfl
  have HA : Hid (∀ k, (h : k < s.size) → 1 ≤ k → 32 ≤ s[k].toNat ∧ s[k].toNat ≤ 126 ∧ (k ≠ 1 → s[k].toNat ≠ 92 ∧ s[k].toNat ≠ 34)) := hall
  clear hall h92
  have body : ∀ (z2 : Bool), ((s.size : Int) != 2) = z2 → (z2 = false ∨ ((s.size : Int) != 6) = false) → Calls Try.prog 4 #[.int .u8 (c : Int)] w fun e w' => e = .returned (.bool true) ∧ Grown w w' := by
    intro z2 hz2 hz6
    have hle : s.size ≤ 6 := by omega
    clear hsz hd
    rcases hz6 with rfl | hz6
    all_goals try cases z2
    all_goals
      go_enter Try.func4, Try.ntmps4
      go_wp2_with (first | (go_at_call 11; refine (HD.out _).mono ?_; rintro e w' ⟨rfl, rfl⟩) | (go_at_call 12; refine (HZ.out _).mono ?_; rintro e w' ⟨rfl, hg⟩))
      go_loop [4] (fun i => ∃ k : Nat, 1 ≤ k ∧ k ≤ s.size ∧ i = .int .i64 k) (fun i => s.size - (intOf i).toNat)
      case atStart => exact ⟨1, by omega, by omega, rfl⟩
      case round =>
        obtain ⟨k, hk1, hk, rfl⟩ := hrel
        by_cases hlt : k < s.size
        · obtain ⟨g1, g2, g3⟩ := HA.out k hlt hk1
          have q1 : ¬ ((s[k].toNat : Int) < 32) := by omega
          have q2 : ¬ (126 < (s[k].toNat : Int)) := by omega
          clear g1 g2
          by_cases hone : k = 1
          · have k1 : ((k : Int) != 1) = false := by rw [hone]; rfl
            clear hone g3
            go_wp2
            all_goals
              go_round
              case rel => exact ⟨k + 1, by omega, by omega, by go_num⟩
              case measure => simp [intOf]; omega
          · obtain ⟨g4, g5⟩ := g3 hone
            have q3 : ((s[k].toNat : Int) == 92) = false := by simp; omega
            have q4 : ((s[k].toNat : Int) == 34) = false := by simp; omega
            clear g3 g4 g5
            go_wp2
            go_round
            case rel => exact ⟨k + 1, by omega, by omega, by go_num⟩
            case measure => simp [intOf]; omega
        · go_wp2
          go_ret
          exact ⟨rfl, hg⟩
  rcases hsz with hz | hz
  · exact body false (by rw [hz]; rfl) (.inl rfl)
  · exact body true (by rw [hz]; rfl) (.inr (by rw [hz]; rfl))

theorem walk (a0 : Int) (w0 : (Lit.int .u8 a0).wf = true) (w : World) :
    Calls Try.prog 4 #[.int .u8 a0] w fun e w' => e = .returned (.bool true) ∧ Grown w w' := by
  have bd := bounds_u8 w0
  obtain ⟨c, rfl⟩ := Int.eq_ofNat_of_zero_le bd.1
  have hc : c < 256 := by omega
  by_cases hd : dom c = true
  · exact walk_in c hc hd w
  · have hd' : dom c = false := by simpa using hd
    have h11 := dom_any c hc
    rw [hd'] at h11
    have HD : Hid (∀ w, Calls Try.prog 11 #[.int .u8 (c : Int)] w fun e w' => e = .returned (.bool false) ∧ w' = w) := h11
    clear h11 hd hd'
    go_enter Try.func4, Try.ntmps4
    go_wp2_with (go_at_call 11; refine (HD.out _).mono ?_; rintro e w' ⟨rfl, rfl⟩)
    go_ret
    exact ⟨rfl, Grown.refl _⟩

/-! ### THE ROW's STEP: WRITTEN OUT: LEAVE IT -/
set_option maxRecDepth 100000 in
theorem lifted (os : Os) (started : os.Started) (H : Type) (enc : TypeId × Value → H) :
    ReturnsInHanded {} Try.checked os 4 .any (Rows.fnAsciiEscapeIsInertInsideAStringSpec.pre6 enc Try.prog Try.f4 Rows.fnAsciiEscapeIsInertInsideAStringRow.domain false) (Rows.fnAsciiEscapeIsInertInsideAStringSpec.post enc Try.prog Try.f4 false true false false) := by
  refine returnsInHanded_of_change (C := Try.checked) own started (by kernel_rfl) Try.func4
    (ChangeSpec.witness6 (enc := enc) (C := Try.checked) false ⟨#[], #[.int .u8 0], []⟩ 8 (by kernel_rfl) (by kernel_rfl) (by kernel_rfl) (by kernel_rfl)) ?_
  intro W base args ds gs before hval0 hW hcnd _
  have hval : ∀ (j : Nat) t v, Try.f4.params[j]? = some t → args[j]? = some v → Value.okWide Try.prog W .any base t v := hval0
  have hW' := hW
  obtain ⟨p, q, hA0, hV, rfl, hfz, hnd⟩ := hW
  have hA : DataW.TrodAll enc Try.prog W 0 (fun _ => true) true Try.f4.params.toList args.toList ds p := hA0
  rw [Try.params4] at hA hval
  obtain ⟨v0, vs0, d0, ds0, p0, q0, hargs, rfl, rfl, h0, r0⟩ := trodAll_cons hA
  obtain ⟨rfl, rfl, rfl⟩ := trodAll_nil r0
  obtain rfl : args = #[v0] := by cases args; simp_all
  obtain ⟨rfl, rfl⟩ := trodVars_none hV
  obtain ⟨a0, rfl, rfl, rfl, w0⟩ := open_int Try.underlying5 (hval 0 5 v0 rfl rfl) h0
  clear hA0 hval0
  simp only [List.append_nil] at hW'
  refine (walk a0 w0 W).mono fun e W' ⟨he, hg⟩ => ?_
  subst he
  exact ⟨_, rfl, post_of_same (pa := []) (pv := []) hW' (fun _ _ _ => (trodAll_cons_mk (shut_bool Try.underlying4 _) trodAll_mk0)) (fun sp _ => (trodAll_cons_mk (shut_int Try.underlying5 w0) trodAll_mk0)) (fun _ _ => rfl) rfl
    (hg.frame _) hg.2.1 (ok_one (by kernel_rfl) rfl (okWide_bool_mk Try.underlying4 _))⟩

theorem over : Rows.fnAsciiEscapeIsInertInsideAStringRow.holds Try.pinned (OpenSpec.ofChange Rows.fnAsciiEscapeIsInertInsideAStringSpec) :=
  OpenClaim.holds_of_wide 4 Try.f4 rfl rfl rfl rfl rfl rfl rfl ⟨rfl, rfl, rfl, rfl, rfl⟩ rfl rfl rfl rfl rfl (by kernel_rfl) Try.func4 (by kernel_rfl)
    (of_decide_eq_true (by kernel_rfl)) (by unfold Func.isWrapper; first | (rw [if_pos (by decide +kernel)]; kernel_rfl) | (rw [if_neg (by decide +kernel)]; exact ⟨rfl, rfl⟩))
    (fun os started H enc _ => lifted os started H enc)

/-- ████ THE STATEMENT ████ -/
theorem proved : Rows.FnAsciiEscapeIsInertInsideAStringSaid :=
  over
end Go.Proofs.Qxb6000696a.fnAsciiEscapeIsInertInsideAString
namespace Go.Proofs.Qxb6000696a
/-- The given statement, under a short name of this seat's namespace. -/
theorem fnAsciiEscapeIsInertInsideAString_proved : Rows.FnAsciiEscapeIsInertInsideAStringSaid := fnAsciiEscapeIsInertInsideAString.proved
end Go.Proofs.Qxb6000696a
