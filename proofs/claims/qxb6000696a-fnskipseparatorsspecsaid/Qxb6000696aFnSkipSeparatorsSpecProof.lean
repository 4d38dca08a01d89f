/-
  A PROOF OF 'Rows.FnSkipSeparatorsSpecSaid' (the frame: by the kit's program, turned to this function; the walk: ours).
-/
import Derived.Test.Qxb6000696aRows
import Derived.WalkKit
import Derived.ProofKit
import Derived.OpenShut
import Derived.ShutString
import Derived.Lib.Hide
import Derived.Test.Qxb6000696aSkip
import Derived.ChangeOld
import Derived.Below
namespace Go.Proofs.Qxb6000696a.fnSkipSeparatorsSpec
open Go.ChangeShapes Go.WideShapes Go.ChangeAt Go.RowKit
open Go.ChangeMaps (open_string shut_string)
set_option linter.unusedVariables false

theorem own : ownKnob Try.prog.godebug = none := by kernel_rfl
theorem laidOut : laidOutB Try.prog = true := by kernel_rfl

/-- WHAT THE WALK IS TOLD OF A SLICE OF INTEGERS THAT CAME IN: it is nil; or it leads to a row of 'cap' cells, the numbers 'zs' (the first 'len' are its elements, the rest its spare room), each fitting its kind. -/
def IsRow (k : IntKind) (w : World) (a : Option Addr) (len cap : Nat) (zs : List Int) : Prop :=
  (a = none ∧ len = 0 ∧ cap = 0 ∧ zs = []) ∨
  ∃ x, a = some x ∧ len ≤ cap ∧ cap ≤ maxLen ∧ zs.length = cap ∧ (∀ i, i < zs.length → w.cell? (x.add i) = some (.int k (zs.getD i 0))) ∧ ∀ n ∈ zs, (Lit.int k n).wf = true

theorem cell_lt {w : World} {a : Addr} {v : Value} (h : w.cell? a = some v) : a.block < w.heap.size := by
  unfold World.cell? at h
  split at h
  · rename_i e
    exact (Array.getElem?_eq_some_iff.1 e).1
  · simp at h

/-! ### STEP 1: THE WALK -/
/-- Too long, or a negative place: true at once. -/
theorem walk_long (ao : Option Addr) (len cap : Nat) (i : Int) (h : (1048576 : Int) < (len : Int)) (w : World) :
    Calls Try.prog 5 #[.slice ao len cap, .int .i64 i] w fun e w' => e = .returned (.bool true) ∧ Below w.heap.size w w' := by
  go_enter Try.func5, Try.ntmps5
  go_wp2_with (go_at_call 14; refine (bytes_no ao len cap i h _).mono ?_; rintro e w' ⟨rfl, rfl⟩)
  go_ret
  exact ⟨rfl, Below.refl _ _⟩
theorem walk_neg (ao : Option Addr) (len cap : Nat) (i : Int) (h : ¬ (1048576 : Int) < (len : Int)) (hi : i < 0) (w : World) :
    Calls Try.prog 5 #[.slice ao len cap, .int .i64 i] w fun e w' => e = .returned (.bool true) ∧ Below w.heap.size w w' := by
  go_enter Try.func5, Try.ntmps5
  go_wp2_with (go_at_call 14; refine (bytes_yes ao len cap i h _).mono ?_; rintro e w' ⟨rfl, rfl⟩)
  go_ret
  exact ⟨rfl, Below.refl _ _⟩
/-- At or behind the end: whatever the clone is, skipSeparators hands i back. -/
theorem walk_past (ao : Option Addr) (len cap : Nat) (i : Int) (h : ¬ (1048576 : Int) < (len : Int)) (hi : ¬ i < 0) (hp : (len : Int) ≤ i) (w : World)
    (hcl : ∀ w, Calls Try.prog 15 #[.slice ao len cap] w fun e w' => (∃ a c, e = .returned (.slice a len c)) ∧ Below w.heap.size w w') :
    Calls Try.prog 5 #[.slice ao len cap, .int .i64 i] w fun e w' => e = .returned (.bool true) ∧ Below w.heap.size w w' := by
  have HC : Hid (∀ w, Calls Try.prog 15 #[.slice ao len cap] w fun e w' => (∃ a c, e = .returned (.slice a len c)) ∧ Below w.heap.size w w') := hcl
  clear hcl
  go_enter Try.func5, Try.ntmps5
  go_wp2_with (first | (go_at_call 14; refine (bytes_yes ao len cap i h _).mono ?_; rintro e w' ⟨rfl, rfl⟩) | (go_at_call 15; refine (HC.out _).mono ?_; rintro e w1 ⟨⟨a, c, rfl⟩, hb⟩) | (go_at_call 16; refine (zzskip_past _ _ _ i hp _).mono ?_; rintro e w' ⟨rfl, rfl⟩))
  go_ret
  exact ⟨rfl, hb⟩

/-- At or behind the end of a slice that holds something. -/
theorem walk_past_some (b off len cap : Nat) (zs : List Int) (hz : len ≤ zs.length) (i : Int) (h : ¬ (1048576 : Int) < (len : Int)) (hi : ¬ i < 0) (hp : (len : Int) ≤ i) (w : World) (hc : ∀ j, j < len → w.cell? ⟨b, off + j, none⟩ = some (.int .u8 (zs.getD j 0))) (hb : b < w.heap.size) (hpos : 0 < len) :
    Calls Try.prog 5 #[.slice (some ⟨b, off, none⟩) len cap, .int .i64 i] w fun e w' => e = .returned (.bool true) ∧ Below w.heap.size w w' := by
  have HC : Hid (Calls Try.prog 15 #[.slice (some ⟨b, off, none⟩) len cap] w fun e w' => e = .returned (.slice (some ⟨w.heap.size, 0, none⟩) len len) ∧
      w'.ownsRow w.heap.size 5 1 (.slice (some ⟨w.heap.size, 0, none⟩) len len) len ((zs.take len).map (Value.int .u8)) ∧ Below w.heap.size w w') := clone_some b off len cap zs hz hpos (by omega) w hc hb
  clear hc
  go_enter Try.func5, Try.ntmps5
  go_wp2_with (first | (go_at_call 14; refine (bytes_yes _ _ _ _ h _).mono ?_; rintro e w' ⟨rfl, rfl⟩) | (go_at_call 15; refine HC.out.mono ?_; rintro e w1 ⟨rfl, hown, hb1⟩; clear hown) | (go_at_call 16; refine (zzskip_past _ _ _ i hp _).mono ?_; rintro e w' ⟨rfl, rfl⟩))
  go_ret
  exact ⟨rfl, hb1⟩

set_option maxHeartbeats 1000000 in
/-- Inside. -/
theorem walk_in (b off len cap : Nat) (zs : List Int) (hz : len ≤ zs.length) (i : Nat) (h : ¬ (1048576 : Int) < (len : Int)) (hi : i < len) (w : World) (hc : ∀ j, j < len → w.cell? ⟨b, off + j, none⟩ = some (.int .u8 (zs.getD j 0))) (hb : b < w.heap.size) :
    Calls Try.prog 5 #[.slice (some ⟨b, off, none⟩) len cap, .int .i64 (i : Int)] w fun e w' => e = .returned (.bool true) ∧ Below w.heap.size w w' := by
  have HC : Hid (Calls Try.prog 15 #[.slice (some ⟨b, off, none⟩) len cap] w fun e w' => e = .returned (.slice (some ⟨w.heap.size, 0, none⟩) len len) ∧
      w'.ownsRow w.heap.size 5 1 (.slice (some ⟨w.heap.size, 0, none⟩) len len) len ((zs.take len).map (Value.int .u8)) ∧ Below w.heap.size w w') := clone_some b off len cap zs hz (by omega) (by omega) w hc hb
  clear hc
  have d1 : decide ((1048576 : Int) < (len : Int)) = false := by simp; omega
  have d2 : decide ((i : Int) < 0) = false := decide_eq_false (by omega)
  have d3 : decide ((len : Int) ≤ (i : Int)) = false := by simp; omega
  go_enter Try.func5, Try.ntmps5
  go_wp2_with (first | (go_at_call 14; refine (bytes_yes _ _ _ _ h _).mono ?_; rintro e w' ⟨rfl, rfl⟩) | (go_at_call 15; refine HC.out.mono ?_; rintro e w1 ⟨rfl, hown, hb1⟩; refine Hid.out ?_))
  have hcell : Hid (∀ j, j < len → w1.cell? ⟨w.heap.size, j, none⟩ = some (.int .u8 (zs.getD j 0))) := by
    intro j hj
    rw [hown.cellAt j (by omega)]
    have : j < zs.length := by omega
    simp [hj, this]
  clear hown
  refine Lib.hid ?_
  go_wp2_with (go_at_call 16; refine (zzskip_in w.heap.size len len zs i hi (by omega) w1 hcell.out).mono ?_; rintro e w' ⟨⟨r, rfl, h1, h2, h3, h4⟩, rfl⟩; refine Hid.out ?_)
  have H3 : Hid (∀ j, i ≤ j → j < r → sepB (zs.getD j 0) = true) := h3
  have H4 : Hid (r < len → sepB (zs.getD r 0) = false) := h4
  clear h3 h4
  refine Lib.hid ?_
  have hri : (i : Int) ≤ (r : Int) := by omega
  have hrl : (r : Int) ≤ (len : Int) := by omega
  have d4 : decide ((r : Int) < (i : Int)) = false := by simp; omega
  have d5 : decide ((len : Int) < (r : Int)) = false := by simp; omega
  have d6 : decide (r < i) = false := by simp; omega
  have d7 : decide (len < r) = false := by simp; omega
  have d8 : decide (len ≤ i) = false := by simp; omega
  by_cases hr : r = len
  · have er : ((r : Int) == (len : Int)) = true := by rw [hr]; simp
    clear hr
    go_wp2
    go_loop [6] (fun t => ∃ k : Nat, i ≤ k ∧ k ≤ r ∧ t = .int .i64 k) (fun t => r - (intOf t).toNat)
    case atStart => exact ⟨i, Nat.le_refl _, h1, rfl⟩
    case round =>
      obtain ⟨k, hik, hk, rfl⟩ := hrel
      by_cases hlt : k < r
      · have hcx := hcell.out k (by omega)
        have hs := H3.out k hik hlt
        generalize zs.getD k 0 = v at hcx hs
        have HS : Hid (sepB v = true) := hs
        clear hs
        go_wp2_with (go_at_call 17; refine (isSep_yes v HS.out _).mono ?_; rintro e w' ⟨rfl, rfl⟩)
        go_round
        case rel => exact ⟨k + 1, by omega, by omega, by go_num⟩
        case measure => simp [intOf]; omega
      · go_wp2
        go_ret
        exact ⟨rfl, hb1⟩
  · have er : ((r : Int) == (len : Int)) = false := by simp; omega
    have hrl2 : (r : Int) < (len : Int) := by omega
    clear hr
    go_wp2
    go_loop [6] (fun t => ∃ k : Nat, i ≤ k ∧ k ≤ r ∧ t = .int .i64 k) (fun t => r - (intOf t).toNat)
    case atStart => exact ⟨i, Nat.le_refl _, h1, rfl⟩
    case round =>
      obtain ⟨k, hik, hk, rfl⟩ := hrel
      by_cases hlt : k < r
      · have hcx := hcell.out k (by omega)
        have hs := H3.out k hik hlt
        generalize zs.getD k 0 = v at hcx hs
        have HS : Hid (sepB v = true) := hs
        clear hs
        go_wp2_with (go_at_call 17; refine (isSep_yes v HS.out _).mono ?_; rintro e w' ⟨rfl, rfl⟩)
        go_round
        case rel => exact ⟨k + 1, by omega, by omega, by go_num⟩
        case measure => simp [intOf]; omega
      · have hcx := hcell.out r (by omega)
        have hs := H4.out (by omega)
        generalize zs.getD r 0 = v at hcx hs
        have HS : Hid (sepB v = false) := hs
        clear hs
        go_wp2_with (go_at_call 17; refine (isSep_no v HS.out _).mono ?_; rintro e w' ⟨rfl, rfl⟩)
        go_ret
        exact ⟨rfl, hb1⟩

theorem walk (a0 : Option Addr) (len0 cap0 : Nat) (z0 : List Int) (a1 : Int) (w : World) (w0 : IsRow .u8 w a0 len0 cap0 z0) (w1 : (Lit.int .i64 a1).wf = true) :
    Calls Try.prog 5 #[.slice a0 len0 cap0, .int .i64 a1] w fun e w' => e = .returned (.bool true) ∧ Below w.heap.size w w' := by
  by_cases hlong : (1048576 : Int) < (len0 : Int)
  · exact walk_long a0 len0 cap0 a1 hlong w
  by_cases hneg : a1 < 0
  · exact walk_neg a0 len0 cap0 a1 hlong hneg w
  obtain ⟨i, rfl⟩ := Int.eq_ofNat_of_zero_le (show 0 ≤ a1 by omega)
  rcases w0 with ⟨rfl, rfl, rfl, rfl⟩ | ⟨x, rfl, hl, hm, hz, hcell, hwz⟩
  · refine walk_past none 0 0 i hlong hneg (by omega) w fun w => ?_
    refine (clone_nil w).mono fun e w' ⟨he, hw⟩ => ⟨⟨none, 0, he⟩, ?_⟩
    subst hw
    exact Below.refl _ _
  · by_cases h0 : len0 = 0
    · subst h0
      refine walk_past (some x) 0 cap0 i hlong hneg (by omega) w fun w => ?_
      exact (clone_empty x cap0 w).mono fun e w' ⟨he, hw⟩ => ⟨⟨_, 0, he⟩, hw⟩
    · obtain ⟨b, off, spot⟩ := x
      have hspot : spot = none := by simpa [Addr.add] using World.cell?_spot (hcell 0 (by omega))
      subst hspot
      have hc : ∀ j, j < len0 → w.cell? ⟨b, off + j, none⟩ = some (.int .u8 (z0.getD j 0)) := fun j hj => by
        have := hcell j (by omega)
        rwa [add_plain] at this
      have hb : b < w.heap.size := by
        have := hc 0 (by omega)
        exact cell_lt this
      by_cases hp : (len0 : Int) ≤ (i : Int)
      · refine walk_past_some b off len0 cap0 z0 (by omega) i hlong hneg hp w hc hb (by omega)
      · exact walk_in b off len0 cap0 z0 (by omega) i hlong (by omega) w hc hb

/-! ### THE ROW's STEP: WRITTEN OUT: LEAVE IT -/
set_option maxRecDepth 100000 in
theorem lifted (os : Os) (started : os.Started) (H : Type) (enc : TypeId × Value → H) :
    ReturnsInHanded {} Try.checked os 5 .any (Rows.fnSkipSeparatorsSpecSpec.pre6 enc Try.prog Try.f5 Rows.fnSkipSeparatorsSpecRow.domain false) (Rows.fnSkipSeparatorsSpecSpec.post enc Try.prog Try.f5 false true false false) := by
  refine returnsInHanded_of_change (C := Try.checked) own started (by kernel_rfl) Try.func5
    (ChangeSpec.witness6 (enc := enc) (C := Try.checked) false ⟨#[], #[.slice none 0 0, .int .i64 0], []⟩ 8 (by kernel_rfl) (by kernel_rfl) (by kernel_rfl) (by kernel_rfl)) ?_
  intro W base args ds gs before hval0 hW hcnd _
  have hval : ∀ (j : Nat) t v, Try.f5.params[j]? = some t → args[j]? = some v → Value.okWide Try.prog W .any base t v := hval0
  have hW' := hW
  obtain ⟨p, q, hA0, hV, rfl, hfz, hnd⟩ := hW
  have hA : DataW.TrodAll enc Try.prog W 0 (fun _ => true) true Try.f5.params.toList args.toList ds p := hA0
  rw [Try.params5] at hA hval
  obtain ⟨v0, vs0, d0, ds0, p0, q0, hargs, rfl, rfl, h0, r0⟩ := trodAll_cons hA
  obtain ⟨v1, vs1, d1, ds1, p1, q1, rfl, rfl, rfl, h1, r1⟩ := trodAll_cons r0
  obtain ⟨rfl, rfl, rfl⟩ := trodAll_nil r1
  obtain rfl : args = #[v0, v1] := by cases args; simp_all
  obtain ⟨rfl, rfl⟩ := trodVars_none hV
  obtain ⟨a0, len0, cap0, rfl⟩ := okWide_slice Try.underlying26 (hval 0 26 v0 rfl rfl)
  have k0 := h0
  have lt0 : ∀ x ∈ p0, x.block < W.heap.size := by obtain ⟨m, hm⟩ := k0; exact DataW.trod_lt m _ _ _ hm
  obtain ⟨z0, w0⟩ : ∃ zs, IsRow .u8 W a0 len0 cap0 zs := by
    obtain ⟨fuel, hf⟩ := h0
    rcases open_ints Try.underlying26 Try.underlying5 (by kernel_rfl) hf with ⟨hcs, _⟩ | ⟨x, l, c, zs, hcs, _, hl, hm, hz, _, hcell, hwz⟩
    · simp [Value.cells] at hcs
      obtain ⟨rfl, rfl, rfl⟩ := hcs
      exact ⟨[], .inl ⟨rfl, rfl, rfl, rfl⟩⟩
    · simp [Value.cells] at hcs
      obtain ⟨rfl, rfl, rfl⟩ := hcs
      exact ⟨zs, .inr ⟨_, rfl, hl, hm, by simpa using hz, hcell, hwz⟩⟩
  obtain ⟨a1, rfl, rfl, rfl, w1⟩ := open_int Try.underlying3 (hval 1 3 v1 rfl rfl) h1
  clear hA0 hval0
  refine (walk a0 len0 cap0 z0 a1 W w0 w1).mono fun e W' ⟨he, bel⟩ => ?_
  subst he
  exact ⟨_, rfl, _, _, _, [], _, [], hW', trodAll_mk1 (shut_bool Try.underlying4 _), (trodAll_cons_mk (Below.trod laidOut (by kernel_rfl) (of_decide_eq_true (by kernel_rfl)) k0 bel lt0) (trodAll_cons_mk (shut_int Try.underlying3 w1) trodAll_mk0)), rfl, bel.frame _, fun h => by cases h⟩

theorem over : Rows.fnSkipSeparatorsSpecRow.holds Try.pinned (OpenSpec.ofChange Rows.fnSkipSeparatorsSpecSpec) :=
  OpenClaim.holds_of_wide 5 Try.f5 rfl rfl rfl rfl rfl rfl rfl ⟨rfl, rfl, rfl, rfl, rfl⟩ rfl rfl rfl rfl rfl (by kernel_rfl) Try.func5 (by kernel_rfl)
    (of_decide_eq_true (by kernel_rfl)) (by unfold Func.isWrapper; first | (rw [if_pos (by decide +kernel)]; kernel_rfl) | (rw [if_neg (by decide +kernel)]; exact ⟨rfl, rfl⟩))
    (fun os started H enc _ => lifted os started H enc)

/-- ████ THE STATEMENT ████ -/
theorem proved : Rows.FnSkipSeparatorsSpecSaid := over
end Go.Proofs.Qxb6000696a.fnSkipSeparatorsSpec
namespace Go.Proofs.Qxb6000696a
/-- The given statement, under a short name of this seat's namespace. -/
theorem fnSkipSeparatorsSpec_proved : Rows.FnSkipSeparatorsSpecSaid := fnSkipSeparatorsSpec.proved
end Go.Proofs.Qxb6000696a
