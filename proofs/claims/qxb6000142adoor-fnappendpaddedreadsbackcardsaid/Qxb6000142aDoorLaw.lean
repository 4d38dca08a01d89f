/-
  Seat b6000142aD: the walk of 'FnAppendPaddedReadsBack'.
-/
import Derived.Test.Qxb6000142aDoorClone
import Derived.Test.Qxb6000142aDoorPadded
import Derived.Test.Qxb6000142aDoorPlain
import Derived.Deep.QuietTactic
import Derived.BigQuiet
import Derived.WalkSmall
namespace Go.Proofs.Qxb6000142aDoor
open Go.RowKit

theorem bytes_no (ao : Option Addr) (len cap : Nat) (n wd : Int) (h : (1048576 : Int) < (len : Int)) (w : World) :
    Calls Tryd.prog 5 #[.slice ao len cap, .int .i64 n, .int .i64 wd] w fun e w' => e = .returned (.bool false) ∧ w = w' := by
  go_enter Tryd.func5, Tryd.ntmps5
  go_wp2
  go_ret
  exact ⟨rfl, rfl⟩
theorem bytes_yes (ao : Option Addr) (len cap : Nat) (n wd : Int) (h : ¬ (1048576 : Int) < (len : Int)) (w : World) :
    Calls Tryd.prog 5 #[.slice ao len cap, .int .i64 n, .int .i64 wd] w fun e w' => e = .returned (.bool true) ∧ w = w' := by
  go_enter Tryd.func5, Tryd.ntmps5
  go_wp2
  go_ret
  exact ⟨rfl, rfl⟩

theorem walk_long (ao : Option Addr) (len cap : Nat) (n wd : Int) (h : (1048576 : Int) < (len : Int)) (w : World) :
    Calls Tryd.prog 3 #[.slice ao len cap, .int .i64 n, .int .i64 wd] w fun e w' => e = .returned (.bool true) ∧ Below w.heap.size w w' := by
  go_enter Tryd.func3, Tryd.ntmps3
  go_wp2_with (go_at_call 5; refine (bytes_no ao len cap n wd h _).mono ?_; rintro e w' ⟨rfl, rfl⟩)
  go_ret
  exact ⟨rfl, Below.refl _ _⟩
theorem walk_out (ao : Option Addr) (len cap : Nat) (n wd : Int) (h : ¬ (1048576 : Int) < (len : Int)) (ho : 65536 < wd ∨ wd < -65536 ∨ n < 0) (w : World) :
    Calls Tryd.prog 3 #[.slice ao len cap, .int .i64 n, .int .i64 wd] w fun e w' => e = .returned (.bool true) ∧ Below w.heap.size w w' := by
  by_cases h1 : 65536 < wd
  · clear ho
    go_enter Tryd.func3, Tryd.ntmps3
    go_wp2_with (go_at_call 5; refine (bytes_yes ao len cap n wd h _).mono ?_; rintro e w' ⟨rfl, rfl⟩)
    go_ret
    exact ⟨rfl, Below.refl _ _⟩
  by_cases h2 : wd < -65536
  · clear ho
    go_enter Tryd.func3, Tryd.ntmps3
    go_wp2_with (go_at_call 5; refine (bytes_yes ao len cap n wd h _).mono ?_; rintro e w' ⟨rfl, rfl⟩)
    go_ret
    exact ⟨rfl, Below.refl _ _⟩
  · have h3 : n < 0 := by omega
    clear ho
    go_enter Tryd.func3, Tryd.ntmps3
    go_wp2_with (go_at_call 5; refine (bytes_yes ao len cap n wd h _).mono ?_; rintro e w' ⟨rfl, rfl⟩)
    go_ret
    exact ⟨rfl, Below.refl _ _⟩

/-- What is owned, not being empty, lies at the head of a block. -/
theorem own_shape {w : World} {B n : Nat} {v : Value} {xs : List Value} (h : w.ownsRow B 5 1 v n xs) (hn : 0 < n) : ∃ g c, v = .slice (some ⟨g, 0, none⟩) n c ∧ n ≤ c ∧ c ≤ maxLen := by
  rcases h.2 with ⟨_, h0⟩ | ⟨g, cap, cur, e, _, _, h1, h2, _⟩
  · omega
  · exact ⟨g, cap, e, h1, h2⟩

/-- How many zeros stand ahead. -/
def ahead (n : Nat) (wd : Int) : Nat := (wd - ((Lib.decDigits n).length : Int)).toNat
/-- What 'ZZAppendPadded' hands back: a slice that the call owns: the old bytes, then the tail. -/
def Got (w : World) (B len : Nat) (sv : Value) (xs : List Value) (T : List UInt8) (e : Ending) (w' : World) : Prop :=
  ∃ g c, e = .returned (.slice (some ⟨g, 0, none⟩) (len + T.length) c) ∧ len + T.length ≤ c ∧ c ≤ maxLen ∧ w'.ownsRow B 5 1 (.slice (some ⟨g, 0, none⟩) (len + T.length) c) (len + T.length) (xs ++ Lib.byteCells T) ∧ w.grownBy w' sv.ownBlock
theorem got_any (n : Nat) (hn : n ≤ 9223372036854775807) (wd : Int) (h1 : -65536 ≤ wd) (h2 : wd ≤ 65536) (B m : Nat) (sv : Value) (xs : List Value) (hm : m ≤ 1048576) (w : World) (hown : w.ownsRow B 5 1 sv m xs) (hB : B ≤ w.heap.size)
    (htab : Lib.TabIs Tryd.prog w powName .u64 Lib.pow10Tab) :
    Calls Tryd.prog 7 #[sv, .int .i64 (n : Int), .int .i64 wd] w (Got w B m sv xs (tail (ahead n wd) n)) := by
  refine (zzpadded_any n hn wd h1 h2 B m sv xs hm w hown hB htab).mono fun e w' ⟨v', he, ho, hg⟩ => ?_
  have e1 : m + (wd - ((Lib.decDigits n).length : Int)).toNat + (Lib.decDigits n).length = m + (tail (ahead n wd) n).length := by rw [tail_length]; unfold ahead; omega
  have e2 : xs ++ List.replicate (wd - ((Lib.decDigits n).length : Int)).toNat (Value.int .u8 48) ++ Lib.byteCells (Lib.decDigits n) = xs ++ Lib.byteCells (tail (ahead n wd) n) := by
    unfold tail ahead Lib.byteCells
    rw [List.map_append, List.map_replicate, List.append_assoc]
    rfl
  rw [e1, e2] at ho
  have hp : 0 < m + (tail (ahead n wd) n).length := by rw [tail_length]; have := dec_pos n; omega
  obtain ⟨g, c, rfl, hc, hx⟩ := own_shape ho hp
  exact ⟨g, c, he, hc, hx, ho, hg⟩

theorem ho2_kept {w w' : World} {B n : Nat} {v sv : Value} {xs : List Value} (h : w.ownsRow B 5 1 v n xs) (hg : w.grownBy w' sv.ownBlock) (hne : v.ownBlock = none ∨ v.ownBlock ≠ sv.ownBlock) : w'.ownsRow B 5 1 v n xs := h.kept hg hne
theorem own_drewN {w : World} {B n : Nat} {v : Value} {xs : List Value} (h : w.ownsRow B 5 1 v n xs) (q : Nat) : Hid ((w.drewN q).ownsRow B 5 1 v n xs) := h
theorem none_of_below {w w' : World} (h : Below w.heap.size w w') : w.grownBy w' none := ⟨h.os, h.tape, h.output, h.size, fun k hk _ => h.block k hk⟩

set_option maxHeartbeats 4000000 in
set_option maxRecDepth 100000 in
theorem walk_main (ao : Option Addr) (len cap : Nat) (zs : List Int) (n : Nat) (wd : Int) (hlen : ¬ (1048576 : Int) < (len : Int)) (hn : n ≤ 9223372036854775807) (h1 : -65536 ≤ wd) (h2 : wd ≤ 65536) (w : World)
    (hcl : Calls Tryd.prog 6 #[.slice ao len cap] w (Cloned w len zs)) (htab : Lib.TabIs Tryd.prog w powName .u64 Lib.pow10Tab) :
    Calls Tryd.prog 3 #[.slice ao len cap, .int .i64 (n : Int), .int .i64 wd] w fun e w' => e = .returned (.bool true) ∧ Below w.heap.size w w' := by
  have d1 : decide ((1048576 : Int) < (len : Int)) = false := decide_eq_false hlen
  have d2 : decide ((65536 : Int) < wd) = false := decide_eq_false (by omega)
  have d3 : decide (wd < -65536) = false := decide_eq_false (by omega)
  have d4 : decide ((n : Int) < 0) = false := decide_eq_false (by omega)
  have HT := Lib.hid (Lib.tabBelow_of_tabIs htab)
  have HC := Lib.hid hcl
  clear hcl htab
  go_enter Tryd.func3, Tryd.ntmps3
  go_wp2_with (first | (go_at_call 5; refine (bytes_yes _ _ _ _ _ hlen _).mono ?_; rintro e w' ⟨rfl, rfl⟩) | (go_at_call 6; refine HC.out.mono ?_; rintro e w1 ⟨a1, c1, rfl, ho1, hb1⟩; refine Hid.out ?_))
  have HK := Lib.hid (clone_own w.heap.size len c1 a1 zs (by omega) w1 ho1)
  have HO1 := Lib.hid ho1
  clear ho1
  refine Lib.hid ?_
  go_wp2_with (go_at_call 6; refine HK.out.mono ?_; rintro e w2 ⟨a2, c2, rfl, ho2, hb2⟩; refine Hid.out ?_)
  have own1 : w2.ownsRow w.heap.size 5 1 (.slice a1 len c1) len (zs.map (Value.int .u8)) := HO1.out.kept (none_of_below hb2) (by cases hv : (Value.slice a1 len c1).ownBlock <;> simp)
  have hbw2 : Below w.heap.size w w2 := hb1.trans (hb2.mono hb1.size)
  have hG := got_any n hn wd h1 h2 w.heap.size len (.slice a1 len c1) (zs.map (Value.int .u8)) (by omega) w2 own1 hbw2.size (HT.out w2 hbw2)
  have hTl := tail_length (ahead n wd) n
  have hTp := dec_pos n
  have hTd := dec_le n hn
  have hTe : ((ahead n wd + (Lib.decDigits n).length : Nat) : Int) = if ((Lib.decDigits n).length : Int) < wd then wd else ((Lib.decDigits n).length : Int) := by
    unfold ahead; split <;> omega
  have hTv := tail_val (ahead n wd) n
  have hTat := tail_at (ahead n wd) n
  have hTroom := tail_room (ahead n wd) n
  generalize hz : ahead n wd = z at hTl hTe hG hTv hTat hTroom
  have hz2 : z ≤ 65536 + 20 := by rw [← hz]; unfold ahead; omega
  clear hz
  generalize tail z n = T at hTl hG hTv hTat hTroom
  rw [← hTl] at hTe
  have hT1 : 1 ≤ T.length := by omega
  have hT2 : T.length ≤ 70000 := by omega
  have HTe := Lib.hid hTe
  have HTv := Lib.hid hTv
  have HTat := Lib.hid hTat
  have HTroom := Lib.hid hTroom
  have d5 : decide ((T.length : Int) < 1) = false := decide_eq_false (by omega)
  clear hTl hTe hTv hTat hTroom hTp hTd hz2
  have HG := Lib.hid hG
  have HNe : Hid ((Value.slice a2 len c2).ownBlock = none ∨ (Value.slice a2 len c2).ownBlock ≠ (Value.slice a1 len c1).ownBlock) := by
    cases hv : (Value.slice a2 len c2).ownBlock with
    | none => exact .inl rfl
    | some g2 =>
      refine .inr (fun c => ?_)
      have q1 := (ho2.lt g2 hv).1
      have q2 := (HO1.out.lt g2 c.symm).2
      omega
  have HRow : Hid (∀ k, (Value.slice a1 len c1).ownBlock = some k → w.heap.size ≤ k) := fun k hk => (HO1.out.lt k hk).1
  have HO2 := Lib.hid ho2
  have HBW := Lib.hid hbw2
  clear hG own1 hbw2 ho2 hb1 hb2 HO1 HK HT HC
  refine Lib.hid ?_
  go_wp2_with (go_at_call 7; refine HG.out.mono ?_; rintro e w3 ⟨g3, c3, rfl, hc3, hm3, ho3, hg3⟩; refine Hid.out ?_)
  have HO3 := Lib.hid ho3
  have HB3 := Lib.hid (ho2_kept HO2.out hg3 HNe.out)
  have HW3 := Lib.hid (HBW.out.grown hg3 HBW.out.size HRow.out)
  clear ho3 hg3 HG HNe HRow HO2 HBW
  unfold maxLen at hm3
  refine Lib.hid ?_
  go_wp2_with fail
  go_loopw [9] (fun j wr => ∃ k : Nat, k ≤ len ∧ j = .int .i64 k ∧ Hid (wr.ownsRow w.heap.size 5 1 (.slice (some ⟨g3, 0, none⟩) (len + T.length) c3) (len + T.length) (zs.map (Value.int .u8) ++ Lib.byteCells T)) ∧ Hid (wr.ownsRow w1.heap.size 5 1 (.slice a2 len c2) len (zs.map (Value.int .u8))) ∧ Hid (Below w.heap.size w wr)) (fun j _ => len - (intOf j).toNat)
  case atStart => exact ⟨0, Nat.zero_le _, rfl, HO3, HB3, HW3⟩
  case round =>
    clear HO3 HB3 HW3
    obtain ⟨k, hk, rfl, HO, HB, HW⟩ := hrel
    by_cases hlt : k < len
    · obtain ⟨g2, c2', e2, _, _⟩ := own_shape HB.out (by omega)
      simp at e2
      obtain ⟨rfl, rfl⟩ := e2
      have hzl : zs.length = len := by simpa using HB.out.1
      have x1 : wr.cell? ⟨g3, k, none⟩ = some (.int .u8 (zs.getD k 0)) := by
        rw [HO.out.cellAt k (by omega)]
        have : k < zs.length := by omega
        simp [this, List.getElem?_append_left]
      have x2 : wr.cell? ⟨g2, k, none⟩ = some (.int .u8 (zs.getD k 0)) := by
        rw [HB.out.cellAt k (by omega)]
        have : k < zs.length := by omega
        simp [this]
      generalize zs.getD k 0 = x at x1 x2
      have b1 : (k : Int) < (len : Int) := by omega
      have b2 : (k : Int) < (len : Int) + (T.length : Int) := by omega
      clear hzl
      go_wp2
      go_quiet (fail)
      go_wp2
      go_roundw
      case rel => exact ⟨k + 1, by omega, by go_num, own_drewN HO.out _, own_drewN HB.out _, below_drewN HW.out _⟩
      case measure => simp [intOf]; omega
    · have hkl : k = len := by omega
      subst hkl
      have hX : Hid (∀ j, (h : j < T.length) → wr.cell? ⟨g3, k + j, none⟩ = some (.int .u8 (T[j].toNat : Int))) := by
        intro j hj
        have hzl : zs.length = k := by simpa using HB.out.1
        rw [HO.out.cellAt (k + j) (by omega), List.getElem?_append_right (by simp; omega)]
        simp [hzl, Lib.byteCells, hj]
      clear HB HO
      have s1 : (k : Int) ≤ (k : Int) + (T.length : Int) := by omega
      have s2 : ¬ c3 = k := by omega
      go_wp2
      go_loop [11, 12, 13] (fun v j _ => ∃ i : Nat, i ≤ T.length ∧ j = .int .i64 i ∧ v = .int .u64 (dval (T.take i) : Int)) (fun _ j _ => T.length - (intOf j).toNat)
      case atStart => exact ⟨0, Nat.zero_le _, rfl, rfl⟩
      case round =>
        obtain ⟨i, hi, rfl, rfl⟩ := hrel
        by_cases hil : i < T.length
        · have hcx := hX.out i hil
          obtain ⟨x1, x2⟩ := HTat.out i hil
          have hro := HTroom.out i hil
          have HS := Lib.hid (dval_take T i hil)
          generalize T[i].toNat = x at hcx x1 x2 hro HS
          generalize dval (T.take i) = D at hro HS
          have y1 : ¬ (x : Int) < 48 := by omega
          have y2 : ¬ (57 : Int) < (x : Int) := by omega
          have y3 : ¬ (922337203685477580 : Int) < (D : Int) := by omega
          clear hro
          go_wp2
          go_round
          case rel => exact ⟨i + 1, by omega, by go_num, by rw [HS.out]; go_num⟩
          case measure => simp [intOf]; omega
        · have hiT : i = T.length := by omega
          subst hiT
          rw [List.take_length, HTv.out]
          clear HTat HTroom hX HTv
          have y4 : ((n : Int) != (n : Int)) = false := by simp
          have hL := dec_le n hn
          go_wp2
          go_loop [14, 15] (fun m t => ∃ (q u : Nat), u ≤ 9223372036854775807 ∧ q ≤ 20 ∧ m = .int .i64 q ∧ t = .int .i64 u ∧ Hid (q + (Lib.decDigits u).length = (Lib.decDigits n).length + 1)) (fun _ t => (intOf t).toNat)
          case atStart => exact ⟨1, n, hn, by omega, rfl, rfl, show _ + _ = _ by omega⟩
          case round =>
            obtain ⟨q, u, hu, hq, rfl, rfl, HQ⟩ := hrel
            by_cases h10 : (10 : Int) ≤ (u : Int)
            · have HN : Hid ((q + 1) + (Lib.decDigits (u / 10)).length = (Lib.decDigits n).length + 1) := show _ + _ = _ by
                have e1 := HQ.out
                rw [len_big (show ¬ u < 10 by omega)] at e1
                omega
              have hq2 : q + 1 ≤ 20 := by have e1 := HN.out; have e2 := dec_pos (u / 10); omega
              go_wp2
              go_round
              case rel => exact ⟨q + 1, u / 10, by omega, by omega, by go_num, by go_num, HN⟩
              case measure => simp [intOf]; omega
            · have hqL : q = (Lib.decDigits n).length := by
                have e1 := HQ.out
                rw [len_small (show u < 10 by omega)] at e1
                omega
              have hTe := HTe.out
              rw [← hqL] at hTe
              clear HQ hqL hL HTe
              by_cases hw : (q : Int) < wd
              · rw [if_pos hw] at hTe
                have hE : ((T.length : Int) == wd) = true := beq_iff_eq.2 hTe
                clear hTe
                go_wp2
                go_ret
                exact ⟨rfl, HW.out⟩
              · rw [if_neg hw] at hTe
                have hE : ((T.length : Int) == (q : Int)) = true := beq_iff_eq.2 hTe
                clear hTe
                go_wp2
                go_ret
                exact ⟨rfl, HW.out⟩
end Go.Proofs.Qxb6000142aDoor
