/-
  Seat b6000788a: the contract of 'zzRender'.
-/
import Derived.Test.Qxb6000788aRows
import Derived.Test.Qxb6000788aRend
import Derived.WalkKit
import Derived.ProofKit
import Derived.WalkSpells
import Derived.Lib.Hide
import Derived.Laws.IdiomStrings
namespace Go.Proofs.Qxb6000788a
open Go.RowKit

/-! ### The buffer: block B holds 48 cells, the bytes l are the last of them, from place q on -/
def Buf (w : World) (B q : Nat) (l : List UInt8) : Prop :=
  ∃ C : Array Value, w.heap[B]? = some (.cells C 32 (0, 0)) ∧ C.size = 48 ∧ q + l.length = 48 ∧ C.toList.drop q = l.map (fun b => Value.int .u8 (b.toNat : Int))
theorem Buf.cell {w : World} {B q : Nat} {l : List UInt8} (h : Buf w B q l) (j : Nat) (hj : j < 48) : ∃ v, w.cell? ⟨B, j, none⟩ = some v := by
  obtain ⟨C, h1, h2, _, _⟩ := h
  refine ⟨C[j]'(by omega), ?_⟩
  simp [World.cell?, h1, h2, hj]
theorem Buf.free {w : World} {B q : Nat} {l : List UInt8} (h : Buf w B q l) (j : Nat) : w.frozen? ⟨B, j, none⟩ = false := by
  obtain ⟨C, h1, _, _, _⟩ := h
  simp [World.frozen?, h1]
theorem Buf.store {w : World} {B q : Nat} {l : List UInt8} (h : Buf w B (q + 1) l) (b : UInt8) : Buf (w.setCell ⟨B, q, none⟩ (.int .u8 (b.toNat : Int))) B q (b :: l) := by
  obtain ⟨C, h1, h2, h3, h4⟩ := h
  refine ⟨C.setIfInBounds q (.int .u8 (b.toNat : Int)), ?_, by simp [h2], by simp; omega, ?_⟩
  · simp [World.setCell, Array.getElem?_modify, h1]
  · have hq : q < C.toList.length := by simp; omega
    rw [Array.toList_setIfInBounds, List.map_cons, ← h4]
    rw [List.drop_eq_getElem_cons (by simpa using hq)]
    congr 1
    · simp
    · rw [List.drop_set_of_lt (by omega)]
theorem Buf.read {w : World} {B q : Nat} {l : List UInt8} (h : Buf w B q l) (j : Nat) (hj : j < l.length) : w.cell? ⟨B, q + j, none⟩ = some (.int .u8 (l[j].toNat : Int)) := by
  obtain ⟨C, h1, h2, h3, h4⟩ := h
  have e : (C.toList.drop q)[j]? = (l.map (fun b => Value.int .u8 (b.toNat : Int)))[j]? := by rw [h4]
  rw [List.getElem?_drop] at e
  simp [World.cell?, h1]
  simpa [hj] using e

theorem Buf.start (w : World) (C : Array Value) (hC : C.size = 48) : Buf (w.alloc (.cells C 32)) w.heap.size 48 [] := by
  refine ⟨C, ?_, hC, rfl, ?_⟩
  · show (w.heap.push (.cells C 32))[w.heap.size]? = _
    simp
  · simp; omega

/-! ### Powers, kept out of the walk -/
theorem div_succ (d k : Nat) : d / 10 ^ (k + 1) = d / 10 ^ k / 10 := by rw [Nat.pow_succ, Nat.div_div_eq_div_mul]
theorem div_le (d k : Nat) (hd : d ≤ 9999999999999999999) : d / 10 ^ k ≤ 9999999999999999999 := Nat.le_trans (Nat.div_le_self _ _) hd
theorem div_pos_lt (d k : Nat) (hd : d ≤ 9999999999999999999) (h : d / 10 ^ k ≠ 0) : k ≤ 18 := by
  by_cases c : k ≤ 18
  · exact c
  · exfalso
    have h1 : (10 : Nat) ^ 19 ≤ 10 ^ k := Nat.pow_le_pow_right (by omega) (by omega)
    have h2 : (10 : Nat) ^ 19 = 10000000000000000000 := rfl
    exact h (Nat.div_eq_of_lt (by omega))
theorem div_zero_lt (d k : Nat) (h : d / 10 ^ k = 0) : d < 10 ^ k := by
  have hp : 0 < 10 ^ k := Nat.pow_pos (by omega)
  rcases Nat.lt_or_ge d (10 ^ k) with c | c
  · exact c
  · have := Nat.div_pos c hp
    omega

/-- 'buf[i:]'. -/
theorem slice_tail (B q : Nat) (hq : q < 48) (W : World) : (Instr.sliceAt 32 (.pointer (some ⟨B, 0, none⟩)) (some (.int .i64 (q : Int))) none none).run Try.prog W = .ok (.slice (some ⟨B, q, none⟩) (48 - q) (48 - q)) W := by
  have hal : Try.prog.arrayLen 32 = 48 := by simp [Program.arrayLen, Try.underlying32]
  rw [run_sliceAt_array_l W 32 ⟨B, 0, none⟩ (by simp [Program.arrayLen, Program.elem, Try.underlying32]) .i64 (q : Int) (by omega) (by rw [hal]; omega)]
  go_simp
  omega

/-- What 'zzRender' hands back. (A name, so that the walk leaves it closed.) -/
def Rendered (d p : Nat) (e : Ending) : Prop := ∃ k, p < k ∧ k ≤ 19 ∧ d < 10 ^ k ∧ e = .returned (.string ⟨(rend d p k).toArray⟩)

set_option maxHeartbeats 2000000 in
theorem render_any (d p : Nat) (hd : d ≤ 9999999999999999999) (hp : p ≤ 18) (w : World) :
    Calls Try.prog 17 #[.int .u64 (d : Int), .int .i32 (p : Int)] w fun e w' => Rendered d p e ∧ Grown w w' := by
  have p1 : ¬ (p : Int) < 0 := by omega
  have p2 : ¬ (18 : Int) < (p : Int) := by omega
  go_enter Try.func17, Try.ntmps17
  go_wp2
  go_loopw [0, 6, 7] (fun t i n wr => ∃ (k D q : Nat), k ≤ 19 ∧ D ≤ 9999999999999999999 ∧ t = .int .u64 D ∧ n = .int .i32 k ∧ i = .int .i64 q ∧ q + rlen p k = 48 ∧ Hid (D = d / 10 ^ k) ∧ Hid (Buf wr w.heap.size q (rend d p k)) ∧ Grown w wr) (fun _ _ n _ => 19 - (intOf n).toNat)
  case atStart => exact ⟨0, d, 48, by omega, hd, rfl, rfl, rfl, rfl, by simp [Hid], Buf.start w _ rfl, (Grown.refl _).alloc _ _⟩
  case round =>
    obtain ⟨k, D, q, hk, hD, rfl, rfl, rfl, hq, HD, HB, hbel⟩ := hrel
    have hrl : rlen p k ≤ k + 1 := by unfold rlen; split <;> omega
    by_cases hgo : 0 < D ∨ k ≤ p
    · have hk18 : k ≤ 18 := by
        rcases hgo with h | h
        · exact div_pos_lt d k hd (by rw [← HD.out]; omega)
        · omega
      obtain ⟨r, rfl⟩ : ∃ r, q = r + 2 := ⟨q - 2, by omega⟩
      have hr46 : r ≤ 46 := by omega
      obtain ⟨v1, c1⟩ := HB.out.cell (r + 1) (by omega)
      have f1 := HB.out.free (r + 1)
      have HV : Hid (D / 10 = d / 10 ^ (k + 1)) := by rw [div_succ, ← HD.out]; rfl
      have hb1 : ((48 : Int) + (D : Int) % 10) = ((dgt d k).toNat : Int) := by rw [dgt_nat, ← HD.out]; omega
      by_cases hdot : k = p ∧ 0 < p
      · obtain ⟨v0, c0⟩ := HB.out.cell r (by omega)
        have f0 := HB.out.free r
        have e1 : ((k : Int) == (p : Int)) = true := beq_iff_eq.2 (by omega)
        have e2 : (0 : Int) < (p : Int) := by omega
        have hN : Buf ((wr.setCell ⟨w.heap.size, r + 1, none⟩ (.int .u8 46)).setCell ⟨w.heap.size, r, none⟩ (.int .u8 (48 + (D : Int) % 10))) w.heap.size r (rend d p (k + 1)) := by
          have := (HB.out.store (q := r + 1) 46).store (dgt d k)
          rw [hb1, hdot.1, rend_dot hdot.2]
          rw [hdot.1] at this
          exact this
        have hBn := (hbel.setCell (a := ⟨w.heap.size, r + 1, none⟩) (Nat.le_refl _) (.int .u8 46)).setCell (a := ⟨w.heap.size, r, none⟩) (Nat.le_refl _) (.int .u8 (48 + (D : Int) % 10))
        have hql : r + rlen p (k + 1) = 48 := by
          have a1 : rlen p (k + 1) = k + 2 := by unfold rlen; rw [if_pos (by omega)]
          have a2 : rlen p k = k := by unfold rlen; rw [if_neg (by omega)]; rfl
          omega
        have R : Hid (Buf ((wr.setCell ⟨w.heap.size, r + 1, none⟩ (.int .u8 46)).setCell ⟨w.heap.size, r, none⟩ (.int .u8 (48 + (D : Int) % 10))) w.heap.size r (rend d p (k + 1)) ∧ Grown w ((wr.setCell ⟨w.heap.size, r + 1, none⟩ (.int .u8 46)).setCell ⟨w.heap.size, r, none⟩ (.int .u8 (48 + (D : Int) % 10)))) := ⟨hN, hBn⟩
        have HQ : Hid (r + rlen p (k + 1) = 48) := hql
        clear hN hBn hql hb1 hdot HB HD hq hrl
        by_cases hDp : 0 < D
        · have g1 : (0 : Int) < (D : Int) := by omega
          clear hgo hDp
          go_wp2
          go_roundw
          case rel => exact ⟨k + 1, D / 10, r, by omega, by omega, by go_num, by go_num, by go_num, HQ.out, HV, R.out.1, R.out.2⟩
          case measure => simp [intOf]; omega
        · have g1 : ¬ (0 : Int) < (D : Int) := by omega
          rw [show (48 : Int) + (D : Int) % 10 = 48 by omega] at R
          have g2 : (k : Int) ≤ (p : Int) := by omega
          clear hgo hDp
          go_wp2
          go_roundw
          case rel => exact ⟨k + 1, D / 10, r, by omega, by omega, by go_num, by go_num, by go_num, HQ.out, HV, R.out.1, R.out.2⟩
          case measure => simp [intOf]; omega
      · have hN : Buf (wr.setCell ⟨w.heap.size, r + 1, none⟩ (.int .u8 (48 + (D : Int) % 10))) w.heap.size (r + 1) (rend d p (k + 1)) := by
          have := HB.out.store (q := r + 1) (dgt d k)
          rw [hb1, rend_plain hdot]
          exact this
        have hBn := hbel.setCell (a := ⟨w.heap.size, r + 1, none⟩) (Nat.le_refl _) (.int .u8 (48 + (D : Int) % 10))
        have hql : r + 1 + rlen p (k + 1) = 48 := by
          have : rlen p (k + 1) = rlen p k + 1 := by
            unfold rlen
            by_cases h2 : p < k ∧ 0 < p
            · rw [if_pos h2, if_pos (by omega)]
            · rw [if_neg h2, if_neg (by omega)]
          omega
        have R : Hid (Buf (wr.setCell ⟨w.heap.size, r + 1, none⟩ (.int .u8 (48 + (D : Int) % 10))) w.heap.size (r + 1) (rend d p (k + 1)) ∧ Grown w (wr.setCell ⟨w.heap.size, r + 1, none⟩ (.int .u8 (48 + (D : Int) % 10)))) := ⟨hN, hBn⟩
        have HQ : Hid (r + 1 + rlen p (k + 1) = 48) := hql
        clear hN hBn hql hb1 HB HD hq hrl
        by_cases hkp : k = p
        · have e1 : ((k : Int) == (p : Int)) = true := beq_iff_eq.2 (by omega)
          have e2 : ¬ (0 : Int) < (p : Int) := by omega
          have g2 : (k : Int) ≤ (p : Int) := by omega
          clear hdot hkp
          by_cases hDp : 0 < D
          · have g1 : (0 : Int) < (D : Int) := by omega
            clear hgo hDp
            go_wp2
            go_roundw
            case rel => exact ⟨k + 1, D / 10, r + 1, by omega, by omega, by go_num, by go_num, by go_num, HQ.out, HV, R.out.1, R.out.2⟩
            case measure => simp [intOf]; omega
          · have g1 : ¬ (0 : Int) < (D : Int) := by omega
            rw [show (48 : Int) + (D : Int) % 10 = 48 by omega] at R
            clear hgo hDp
            go_wp2
            go_roundw
            case rel => exact ⟨k + 1, D / 10, r + 1, by omega, by omega, by go_num, by go_num, by go_num, HQ.out, HV, R.out.1, R.out.2⟩
            case measure => simp [intOf]; omega
        · have e1 : ((k : Int) == (p : Int)) = false := beq_eq_false_iff_ne.2 (by omega)
          by_cases hDp : 0 < D
          · have g1 : (0 : Int) < (D : Int) := by omega
            clear hgo hDp hdot hkp
            go_wp2
            go_roundw
            case rel => exact ⟨k + 1, D / 10, r + 1, by omega, by omega, by go_num, by go_num, by go_num, HQ.out, HV, R.out.1, R.out.2⟩
            case measure => simp [intOf]; omega
          · have g1 : ¬ (0 : Int) < (D : Int) := by omega
            rw [show (48 : Int) + (D : Int) % 10 = 48 by omega] at R
            have g2 : (k : Int) ≤ (p : Int) := by omega
            clear hgo hDp hdot hkp
            go_wp2
            go_roundw
            case rel => exact ⟨k + 1, D / 10, r + 1, by omega, by omega, by go_num, by go_num, by go_num, HQ.out, HV, R.out.1, R.out.2⟩
            case measure => simp [intOf]; omega
    · have g1 : ¬ (0 : Int) < (D : Int) := by omega
      have g2 : ¬ (k : Int) ≤ (p : Int) := by omega
      have hq48 : q < 48 := by unfold rlen at hq; omega
      have HZ : Hid (d < 10 ^ k) := div_zero_lt d k (by rw [← HD.out]; omega)
      clear hgo
      have hsl := slice_tail w.heap.size q (by omega)
      have hlen : (rend d p k).length = 48 - q := by rw [rend_length]; omega
      have hcv : (convert 33 9 (.slice (some ⟨w.heap.size, q, none⟩) (48 - q) (48 - q))).run Try.prog wr = .ok (.string ⟨(rend d p k).toArray⟩) wr := by
        have := run_convert_bytes_back (P := Try.prog) wr 33 9 5 ⟨w.heap.size, q, none⟩ (48 - q) (rend d p k) Try.underlying33 Try.underlying5 Try.underlying9 (fun j hj => by rw [WideShapes.add_plain]; exact HB.out.read j hj)
        rwa [hlen] at this
      clear hlen
      generalize hR : (⟨(rend d p k).toArray⟩ : ByteArray) = R at hcv
      have HR : Hid ((⟨(rend d p k).toArray⟩ : ByteArray) = R) := hR
      clear hR
      go_wp2
      go_ret
      exact ⟨⟨k, by omega, hk, HZ.out, by rw [HR.out]; rfl⟩, hbel⟩
end Go.Proofs.Qxb6000788a
