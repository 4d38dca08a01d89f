/-
  Seat b6000142aD: the contract of 'zzCloneBytes_load_b1'.
-/
import Derived.Test.Qxb6000142aDoorRows
import Derived.WalkKit
import Derived.ProofKit
import Derived.WalkSpells
namespace Go.Proofs.Qxb6000142aDoor
open Go.RowKit

/-- What the new row holds when the first k bytes are copied. -/
def done (zs : List Int) (len k : Nat) : List Value := (zs.take k).map (Value.int .u8) ++ List.replicate (len - k) (Value.int .u8 0)
theorem done_all (zs : List Int) (len : Nat) : done zs len len = (zs.take len).map (Value.int .u8) := by simp [done]
theorem done_zero (zs : List Int) (len : Nat) : done zs len 0 = List.replicate len (Value.int .u8 0) := by simp [done]
theorem done_length (zs : List Int) (len k : Nat) (h : len ≤ zs.length) (hk : k ≤ len) : (done zs len k).length = len := by simp [done]; omega
theorem done_set (zs : List Int) (len k : Nat) (h : len ≤ zs.length) (hk : k < len) : (done zs len k).set k (Value.int .u8 (zs.getD k 0)) = done zs len (k + 1) := by
  have e1 : len - k = (len - (k + 1)) + 1 := by omega
  have hz : k < zs.length := by omega
  have e2 : zs.take (k + 1) = zs.take k ++ [zs.getD k 0] := by
    rw [List.take_succ_eq_append_getElem hz, List.getD_eq_getElem?_getD, List.getElem?_eq_getElem hz]; rfl
  unfold done
  rw [e1, List.replicate_succ, e2, List.map_append, List.append_assoc]
  have hl : ((zs.take k).map (Value.int .u8)).length = k := by simp; omega
  rw [List.set_append, if_neg (by omega), hl, Nat.sub_self]
  rfl
theorem made_u8 (n : Nat) : (madeCells #[Value.int .u8 0] n).toList = List.replicate n (Value.int .u8 0) := by
  apply List.ext_getElem
  · simp [madeCells]
  · intro i h1 h2
    simp [madeCells, Nat.mod_one]

theorem Tryd.info5 : (Tryd.prog.info? 5).map (fun i => (i.zero, i.size, i.bytes)) = some (some (.int .u8 0), 1, 1) := by kernel_rfl

/-- 'zzCloneBytes_load_b1' of nil. -/
theorem clone_nil (w : World) : Calls Tryd.prog 6 #[.slice none 0 0] w fun e w' => e = .returned (.slice none 0 0) ∧ w' = w := by
  have hnil : ∀ W, (binOp .eql 22 (.slice none 0 0) (.slice none 0 0)).run Tryd.prog W = .ok (.bool true) W := fun W => Lib.run_eql_slice_nil W _ _ none 0 0 0 0 Tryd.underlying22
  go_enter Tryd.func6, Tryd.ntmps6
  go_wp2
  go_ret
  exact ⟨rfl, rfl⟩

set_option maxHeartbeats 1000000 in
/-- 'zzCloneBytes_load_b1' of a slice that is not nil and holds something. -/
theorem clone_some (b off len cap : Nat) (zs : List Int) (hz : len ≤ zs.length) (hpos : 0 < len) (hle : len ≤ 1048576) (w : World) (hc : ∀ i, i < len → w.cell? ⟨b, off + i, none⟩ = some (.int .u8 (zs.getD i 0))) (hb : b < w.heap.size) :
    Calls Tryd.prog 6 #[.slice (some ⟨b, off, none⟩) len cap] w fun e w' => e = .returned (.slice (some ⟨w.heap.size, 0, none⟩) len len) ∧
      w'.ownsRow w.heap.size 5 1 (.slice (some ⟨w.heap.size, 0, none⟩) len len) len ((zs.take len).map (Value.int .u8)) ∧ Below w.heap.size w w' := by
  have hnil : ∀ W, (binOp .eql 22 (.slice (some ⟨b, off, none⟩) len cap) (.slice none 0 0)).run Tryd.prog W = .ok (.bool false) W := fun W => Lib.run_eql_slice_nil W _ _ (some _) len cap 0 0 Tryd.underlying22
  obtain ⟨i0, hi, hz0, hz1, hz2⟩ := info_parts Tryd.info5
  have HC : Hid (∀ i, i < len → w.cell? ⟨b, off + i, none⟩ = some (.int .u8 (zs.getD i 0))) := hc
  clear hc
  go_enter Tryd.func6, Tryd.ntmps6
  go_wp2_with (at_make; refine wpList_make_full _ rfl _ _ 22 rfl w.heap.size 5 i0 (.int .u8 0) 1 Tryd.underlying22 hi hz0 hz1 _ _ _ _ len rfl rfl rfl rfl (by rw [hz2]; omega) (by unfold maxLen; omega) (Nat.le_refl _) ?_)
  intro w1 hown hgrow
  rw [made_u8, ← done_zero zs len] at hown
  have hb1 : Below w.heap.size w w1 := (Below.refl _ _).grown hgrow (Nat.le_refl _) (fun k hk => by simp at hk)
  clear hgrow
  go_wp2
  go_loopw [4] (fun i wr => ∃ k : Nat, k ≤ len ∧ i = .int .i64 k ∧ wr.ownsRow w.heap.size 5 1 (.slice (some ⟨w.heap.size, 0, none⟩) len len) len (done zs len k) ∧ Below w.heap.size w wr) (fun i _ => len - (intOf i).toNat)
  case atStart => exact ⟨0, Nat.zero_le _, rfl, hown, hb1⟩
  case round =>
    obtain ⟨k, hk, rfl, howr, hbr⟩ := hrel
    by_cases hlt : k < len
    · have hcx : wr.cell? ⟨b, off + k, none⟩ = some (.int .u8 (zs.getD k 0)) := (hbr.cell (by exact hb)).trans (HC.out k hlt)
      have hdl := done_length zs len k hz hk
      have hcy := howr.cellAt k (by omega)
      rw [List.getElem?_eq_getElem (by omega)] at hcy
      have hfz := howr.frozenAt k
      have hst := howr.stored k (.int .u8 (zs.getD k 0))
      rw [done_set zs len k hz hlt] at hst
      have HST := hst
      have hbn := hbr.setCell (p := ⟨w.heap.size, k, none⟩) (Nat.le_refl _) (.int .u8 (zs.getD k 0))
      generalize (done zs len k)[k]'(by omega) = old at hcy
      have R : Hid (((wr.setCell ⟨w.heap.size, k, none⟩ (.int .u8 (zs.getD k 0))).ownsRow w.heap.size 5 1 (.slice (some ⟨w.heap.size, 0, none⟩) len len) len (done zs len (k + 1))) ∧ Below w.heap.size w (wr.setCell ⟨w.heap.size, k, none⟩ (.int .u8 (zs.getD k 0)))) := ⟨hst.1, hbn⟩
      clear hst HST hbn hdl
      go_wp2
      go_roundw
      case rel => exact ⟨k + 1, by omega, by go_num, R.out.1, R.out.2⟩
      case measure => simp [intOf]; omega
    · have hkl : k = len := by omega
      subst hkl
      rw [done_all] at howr
      go_wp2
      go_ret
      exact ⟨rfl, howr, hbr⟩

/-- 'zzCloneBytes_load_b1' of a slice that is not nil and holds nothing: of its address nothing is known. -/
theorem clone_empty (x : Addr) (cap : Nat) (w : World) :
    Calls Tryd.prog 6 #[.slice (some x) 0 cap] w fun e w' => e = .returned (.slice (some ⟨w.heap.size, 0, none⟩) 0 0) ∧ w'.ownsRow w.heap.size 5 1 (.slice (some ⟨w.heap.size, 0, none⟩) 0 0) 0 [] ∧ Below w.heap.size w w' := by
  have hnil : ∀ W, (binOp .eql 22 (.slice (some x) 0 cap) (.slice none 0 0)).run Tryd.prog W = .ok (.bool false) W := fun W => Lib.run_eql_slice_nil W _ _ (some _) 0 cap 0 0 Tryd.underlying22
  obtain ⟨i0, hi, hz0, hz1, hz2⟩ := info_parts Tryd.info5
  go_enter Tryd.func6, Tryd.ntmps6
  go_wp2_with (at_make; refine wpList_make_full _ rfl _ _ 22 rfl w.heap.size 5 i0 (.int .u8 0) 1 Tryd.underlying22 hi hz0 hz1 _ _ _ _ 0 rfl rfl rfl rfl (by rw [hz2]; omega) (by unfold maxLen; omega) (Nat.le_refl _) ?_)
  intro w1 hown hgrow
  have hb1 : Below w.heap.size w w1 := (Below.refl _ _).grown hgrow (Nat.le_refl _) (fun k hk => by simp at hk)
  rw [made_u8] at hown
  have HO : Hid (w1.ownsRow w.heap.size 5 1 (.slice (some ⟨w.heap.size, 0, none⟩) 0 0) 0 []) := hown
  clear hgrow hown
  go_wp2
  refine wp_loop_rounds 1 ?_
  rw [rounds_succ]
  go_wp2
  go_ret
  exact ⟨rfl, HO.out, hb1⟩

/-- A clone: a slice of the same length that the call owns, the same bytes in it. -/
def Cloned (w : World) (len : Nat) (zs : List Int) (e : Ending) (w' : World) : Prop :=
  ∃ a c, e = .returned (.slice a len c) ∧ w'.ownsRow w.heap.size 5 1 (.slice a len c) len (zs.map (Value.int .u8)) ∧ Below w.heap.size w w'

/-- 'zzCloneBytes_load_b1' of a slice that the call owns. -/
theorem clone_own (B len c : Nat) (a : Option Addr) (zs : List Int) (hle : len ≤ 1048576) (w : World) (hown : w.ownsRow B 5 1 (.slice a len c) len (zs.map (Value.int .u8))) :
    Calls Tryd.prog 6 #[.slice a len c] w (Cloned w len zs) := by
  have hz : zs.length = len := by simpa using hown.1
  rcases hown.2 with ⟨e, h0⟩ | ⟨g, cap, cur, e, hb, hg, _⟩
  · simp at e
    obtain ⟨rfl, rfl, rfl⟩ := e
    refine (clone_nil w).mono fun e w' ⟨he, hw⟩ => ⟨none, 0, he, ?_, ?_⟩
    · have : zs = [] := List.eq_nil_of_length_eq_zero hz
      subst this
      exact World.ownsRow_nil _ _ _ _
    · subst hw; exact Below.refl _ _
  · simp at e
    obtain ⟨rfl, rfl⟩ := e
    by_cases hp : len = 0
    · subst hp
      have : zs = [] := List.eq_nil_of_length_eq_zero hz
      subst this
      exact (clone_empty ⟨g, 0, none⟩ c w).mono fun e w' ⟨he, ho, hw⟩ => ⟨_, 0, he, ho, hw⟩
    · have hgs : g < w.heap.size := (Array.getElem?_eq_some_iff.1 hg).1
      have := clone_some g 0 len c zs (by omega) (by omega) hle w (fun i hi => by
        rw [Nat.zero_add, hown.cellAt i (by omega)]
        simp [hz, hi]) hgs
      rw [List.take_of_length_le (by omega)] at this
      exact this.mono fun e w' ⟨he, ho, hw⟩ => ⟨_, len, he, ho, hw⟩
end Go.Proofs.Qxb6000142aDoor
