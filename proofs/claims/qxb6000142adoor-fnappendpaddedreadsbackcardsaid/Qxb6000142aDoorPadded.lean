/-
  Seat b6000142aD: the contract of 'appendPadded' and 'ZZAppendPadded', onto a slice that the caller owns: the numeral behind zeros, behind what was there; no other block that was there turns.
-/
import Derived.Test.Qxb6000142aDoorItoa
namespace Go.Proofs.Qxb6000142aDoor
open Go.RowKit Go.Sort

/-- Behind the world w2: only the row of sv, and new blocks, have turned; the slice v lies in sv's row or in a new block. -/
def Step (w2 wr : World) (sv v : Value) : Prop := w2.grownBy wr sv.ownBlock ∧ (v.ownBlock = sv.ownBlock ∨ ∃ g, w2.heap.size ≤ g ∧ v.ownBlock = some g)
theorem Step.refl (w : World) (sv : Value) : Step w w sv sv := ⟨⟨rfl, rfl, rfl, Nat.le_refl _, fun _ _ _ => rfl⟩, .inl rfl⟩
theorem Step.push {w2 wr w1 : World} {sv v v' : Value} {o : Obj} (h : Step w2 wr sv v) (hg : (wr.alloc o).grownBy w1 v.ownBlock) (hat : v'.ownBlock = v.ownBlock ∨ v'.ownBlock = some (wr.heap.size + 1)) : Step w2 w1 sv v' := by
  have ha : wr.grownBy (wr.alloc o) none := World.grownBy_alloc wr o none
  refine ⟨⟨hg.os.trans (ha.os.trans h.1.os), hg.tape.trans (ha.tape.trans h.1.tape), hg.output.trans (ha.output.trans h.1.output), Nat.le_trans h.1.size (Nat.le_trans ha.size hg.size), fun k hk hne => ?_⟩, ?_⟩
  · have k1 : k < wr.heap.size := Nat.lt_of_lt_of_le hk h.1.size
    have k2 : k < (wr.alloc o).heap.size := Nat.lt_of_lt_of_le k1 ha.size
    have hv : some k ≠ v.ownBlock := by
      rcases h.2 with e | ⟨g, hgs, e⟩
      · rw [e]; exact hne
      · rw [e]; intro c; simp at c; omega
    rw [hg.block k k2 hv, ha.block k k1 (by simp), h.1.block k hk hne]
  · rcases hat with e | e
    · rcases h.2 with e2 | ⟨g, hgs, e2⟩
      · exact .inl (e.trans e2)
      · exact .inr ⟨g, hgs, e.trans e2⟩
    · exact .inr ⟨_, Nat.le_trans h.1.size (Nat.le_succ _), e⟩
theorem Step.last {w2 wr w1 : World} {sv v : Value} (h : Step w2 wr sv v) (hg : wr.grownBy w1 v.ownBlock) : w2.grownBy w1 sv.ownBlock := by
  refine ⟨hg.os.trans h.1.os, hg.tape.trans h.1.tape, hg.output.trans h.1.output, Nat.le_trans h.1.size hg.size, fun k hk hne => ?_⟩
  have k1 : k < wr.heap.size := Nat.lt_of_lt_of_le hk h.1.size
  have hv : some k ≠ v.ownBlock := by
    rcases h.2 with e | ⟨g, hgs, e⟩
    · rw [e]; exact hne
    · rw [e]; intro c; simp at c; omega
  rw [hg.block k k1 hv, h.1.block k hk hne]

theorem lies_kept {w w' : World} {g : Nat} {l : List UInt8} (h : Lies w g l) (e : w'.heap[g]? = w.heap[g]?) : Lies w' g l := fun j hj => by
  have c1 : w'.cell? ⟨g, j, none⟩ = w.cell? ⟨g, j, none⟩ := World.cell?_of_block (a := ⟨g, j, none⟩) e
  rw [c1]
  exact h j hj
theorem dec_le (u : Nat) (h : u ≤ 9223372036854775807) : (Lib.decDigits u).length ≤ 20 := by
  rw [Lib.decDigits_length]
  by_cases h1 : u = 0
  · rw [Lib.nDigits_small (by omega)]; omega
  · have := Lib.numDigits_eq u (by omega) (by omega)
    split at this <;> omega

/-- Twenty zeros. -/
def zeros20 : Array Value := #[.int .u8 0, .int .u8 0, .int .u8 0, .int .u8 0, .int .u8 0, .int .u8 0, .int .u8 0, .int .u8 0, .int .u8 0, .int .u8 0, .int .u8 0, .int .u8 0, .int .u8 0, .int .u8 0, .int .u8 0, .int .u8 0, .int .u8 0, .int .u8 0, .int .u8 0, .int .u8 0]
theorem room20 (w : World) : Room (w.alloc (.cells zeros20 38)) w.heap.size := fun j hj => by
  refine ⟨?_, World.frozen?_alloc_new _ _ _ _⟩
  rw [World.cell?_alloc_new]
  have e : zeros20 = Array.replicate 20 (.int .u8 0) := rfl
  rw [e, Array.getElem?_replicate, if_pos hj]
  rfl

theorem own_start {w : World} {B m : Nat} {sv : Value} {xs : List Value} (h : w.ownsRow B 5 1 sv m xs) : Hid (w.ownsRow B 5 1 sv (m + 0) (xs ++ List.replicate 0 (Value.int .u8 48))) := by
  show w.ownsRow B 5 1 sv (m + 0) (xs ++ List.replicate 0 (Value.int .u8 48))
  simpa using h
theorem own_push {w : World} {B m k : Nat} {v : Value} {xs : List Value} (h : w.ownsRow B 5 1 v (m + k + 1) (xs ++ (List.replicate k (Value.int .u8 48) ++ [Value.int .u8 48]))) : w.ownsRow B 5 1 v (m + (k + 1)) (xs ++ List.replicate (k + 1) (Value.int .u8 48)) := by
  rw [← List.replicate_succ'] at h
  exact h
theorem one_cell (v : Value) (h : v.oneCell' = true) : ∀ u ∈ [v], u.oneCell' = true := by
  intro u hu
  simp at hu
  subst hu
  exact h
theorem news_of {w : World} {g : Nat} {l : List UInt8} (h : Lies w g l) : ∀ j u, (Lib.byteCells l)[j]? = some u → w.cell? ((⟨g, 0, none⟩ : Addr).add j) = some u := by
  intro j u hj
  have hjl : j < l.length := by
    have h5 := (List.getElem?_eq_some_iff.1 hj).1
    rwa [Lib.byteCells_length] at h5
  have e5 : (Lib.byteCells l)[j]? = some (Value.int .u8 (l[j].toNat : Int)) := by simp [Lib.byteCells, hjl]
  rw [e5] at hj
  cases hj
  rw [Lib.add_plain, Nat.zero_add]
  exact h j hjl

set_option maxHeartbeats 2000000 in
set_option maxRecDepth 100000 in
theorem padded_any (n : Nat) (hn : n ≤ 9223372036854775807) (wd : Int) (h1 : -65536 ≤ wd) (h2 : wd ≤ 65536) (B m : Nat) (sv : Value) (xs : List Value) (hm : m ≤ 1048576) (w : World) (hown : w.ownsRow B 5 1 sv m xs) (hB : B ≤ w.heap.size)
    (htab : Lib.TabIs Tryd.prog w powName .u64 Lib.pow10Tab) :
    Calls Tryd.prog 12 #[sv, .int .i64 (n : Int), .int .i64 wd] w fun e w' => ∃ v', e = .returned v' ∧
      w'.ownsRow B 5 1 v' (m + (wd - ((Lib.decDigits n).length : Int)).toNat + (Lib.decDigits n).length) (xs ++ List.replicate (wd - ((Lib.decDigits n).length : Int)).toNat (Value.int .u8 48) ++ Lib.byteCells (Lib.decDigits n)) ∧ w.grownBy w' sv.ownBlock := by
  obtain ⟨i0, hi, hz0, hz1, hz2⟩ := info_parts Tryd.info5
  have HK := Lib.hid (appendInt_any n hn w.heap.size (w.alloc (.cells zeros20 38)) (room20 w) (by simp) (Lib.tabIs_alloc htab _))
  have hl20 := dec_le n hn
  generalize Lib.decDigits n = l at HK hl20
  have HO := Lib.hid hown
  clear hown htab
  go_enter Tryd.func12, Tryd.ntmps12
  go_wp2_with fail
  refine HK.out.mono ?_
  rintro e w2 ⟨rfl, hl, hg⟩
  have hne : sv.ownBlock ≠ some w.heap.size := fun c => by
    have := (HO.out.lt _ c).2
    omega
  have own2 : w2.ownsRow B 5 1 sv m xs := (HO.out.alloc _).kept hg (.inr hne)
  have hs2 : w.heap.size < w2.heap.size := by have := hg.size; simp at this; omega
  have HOut : Hid (∀ w', w2.grownBy w' sv.ownBlock → w.grownBy w' sv.ownBlock) := by
    intro w' h
    refine ⟨h.os.trans (hg.os.trans rfl), h.tape.trans (hg.tape.trans rfl), h.output.trans (hg.output.trans rfl), by have := h.size; omega, fun k hk hk2 => ?_⟩
    rw [h.block k (by omega) hk2, hg.block k (by simp; omega) (by simp; omega)]
    exact Below.heap_alloc _ _ _ hk
  have HD : Hid (∀ w', w2.grownBy w' sv.ownBlock → Lies w' w.heap.size l) := by
    intro w' h
    exact lies_kept hl (h.block w.heap.size hs2 (fun c => hne c.symm))
  have HO2 := Lib.hid own2
  have hB2 : B ≤ w2.heap.size := by omega
  clear hl hg hne own2 HO HK
  go_wp2
  go_loopw [0, 16] (fun v c wr => ∃ k : Nat, k ≤ (wd - (l.length : Int)).toNat ∧ c = .int .i64 k ∧ Hid (wr.ownsRow B 5 1 v (m + k) (xs ++ List.replicate k (Value.int .u8 48))) ∧ Hid (Step w2 wr sv v)) (fun _ c _ => (wd - (l.length : Int)).toNat - (intOf c).toNat)
  case atStart => exact ⟨0, Nat.zero_le _, rfl, own_start HO2.out, Step.refl _ _⟩
  case round =>
    obtain ⟨k, hk, rfl, HW, HS⟩ := hrel
    by_cases hlt : (k : Int) < wd - (l.length : Int)
    · have hwr : w2.heap.size ≤ wr.heap.size := HS.out.1.size
      go_wp2_with (at_builtin; refine wpList_append_own_at _ rfl _ _ 22 rfl B 5 i0 (.int .u8 0) 1 1 Tryd.underlying22 hi hz0 hz1 hz2 rfl (by decide) _ _ _ rfl (HW.out.alloc _) ⟨wr.heap.size, 0, none⟩ 1 1 [Value.int .u8 48] rfl rfl (cell_one_new _ _ _) (one_cell _ rfl) (by unfold maxLen; omega) (by omega) (by simp; omega) ?_)
      intro v' w1 hown' hgrow _ hat
      have HN := Lib.hid (own_push hown')
      have HT := Lib.hid (HS.out.push hgrow hat)
      clear hown' hgrow hat HW HS
      go_wp2
      go_roundw
      case rel => exact ⟨k + 1, by omega, by go_num, HN, HT⟩
      case measure => simp [intOf]; omega
    · have hkz : k = (wd - (l.length : Int)).toNat := by omega
      have HZ := Lib.hid hkz
      have hlies := HD.out wr HS.out.1
      have hnews := news_of hlies
      have hwr : w2.heap.size ≤ wr.heap.size := HS.out.1.size
      have HNW := Lib.hid hnews
      clear hkz hlies hnews
      go_wp2_with (at_builtin; refine wpList_append_own_at _ rfl _ _ 22 rfl B 5 i0 (.int .u8 0) 1 1 Tryd.underlying22 hi hz0 hz1 hz2 rfl (by decide) _ _ _ rfl HW.out ⟨w.heap.size, 0, none⟩ l.length 20 (Lib.byteCells l) rfl (by rw [Lib.byteCells_length, Nat.mul_one]) HNW.out (byteCells_one l) (by unfold maxLen; omega) (by omega) (by omega) ?_)
      intro v' w1 hown' hgrow _ hat
      have HN := Lib.hid hown'
      have HT := Lib.hid (HOut.out _ (HS.out.last hgrow))
      clear hown' hgrow hat HW HS
      go_wp2
      go_ret
      refine ⟨v', rfl, ?_, HT.out⟩
      rw [← HZ.out, List.append_assoc]
      exact HN.out

/-- 'ZZAppendPadded'. -/
theorem zzpadded_any (n : Nat) (hn : n ≤ 9223372036854775807) (wd : Int) (h1 : -65536 ≤ wd) (h2 : wd ≤ 65536) (B m : Nat) (sv : Value) (xs : List Value) (hm : m ≤ 1048576) (w : World) (hown : w.ownsRow B 5 1 sv m xs) (hB : B ≤ w.heap.size)
    (htab : Lib.TabIs Tryd.prog w powName .u64 Lib.pow10Tab) :
    Calls Tryd.prog 7 #[sv, .int .i64 (n : Int), .int .i64 wd] w fun e w' => ∃ v', e = .returned v' ∧
      w'.ownsRow B 5 1 v' (m + (wd - ((Lib.decDigits n).length : Int)).toNat + (Lib.decDigits n).length) (xs ++ List.replicate (wd - ((Lib.decDigits n).length : Int)).toNat (Value.int .u8 48) ++ Lib.byteCells (Lib.decDigits n)) ∧ w.grownBy w' sv.ownBlock := by
  have HK := Lib.hid (padded_any n hn wd h1 h2 B m sv xs hm w hown hB htab)
  clear hown htab
  go_enter Tryd.func7, Tryd.ntmps7
  go_wp2_with (go_at_call 12; refine HK.out.mono ?_; rintro e w' ⟨v', rfl, ho, hg⟩; have HO := Lib.hid ho; have HG := Lib.hid hg; clear ho hg)
  go_ret
  exact ⟨v', rfl, HO.out, HG.out⟩
end Go.Proofs.Qxb6000142aDoor
