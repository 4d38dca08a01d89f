/-
  Seat b6000142aD: internal/strconv.AppendUint and AppendInt, strconv.AppendInt, at base 10, onto 'digits[:0]': an empty slice of room 20 over an array of the caller's: the numeral is laid there, nothing else that was there turns.
  (The kit's own contract for AppendInt asks a row whose block bears the element's type; here the block bears the array's.)
-/
import Derived.Test.Qxb6000142aDoorShelf
import Derived.Lib.JoinLaws
import Derived.Lib.AppendIntMem
import Derived.Lib.ItoaWalk
import Derived.Lib.ItoaMem
import Derived.Lib.Hide
import Derived.Maps.AppendAt
import Derived.WalkKit
import Derived.ProofKit
import Derived.WalkSpells
namespace Go.Proofs.Qxb6000142aDoor
open Go.RowKit Go.Sort

/-- The table's name, as the given row names it. -/
def powName : String := Rows.fnAppendPaddedReadsBackRow.named.headD (String.ofList [])
theorem Tryd.info5 : (Tryd.prog.info? 5).map (fun i => (i.zero, i.size, i.bytes)) = some (some (.int .u8 0), 1, 1) := by kernel_rfl

/-- Block g has twenty cells (at least) that may be written. -/
def Room (w : World) (g : Nat) : Prop := ∀ j, j < 20 → (w.cell? ⟨g, j, none⟩).isSome = true ∧ w.frozen? ⟨g, j, none⟩ = false
/-- The bytes l lie at the head of block g. -/
def Lies (w : World) (g : Nat) (l : List UInt8) : Prop := ∀ j, (h : j < l.length) → w.cell? ⟨g, j, none⟩ = some (.int .u8 (l[j].toNat : Int))

theorem lies_set {w : World} {g : Nat} {l : List UInt8} (hr : Room w g) (hl : l.length ≤ 20) : Lies (w.setCells g 0 (Lib.byteCells l)) g l := by
  intro j hj
  have h := World.cell?_setCells_in g (Lib.byteCells l) 0 w (fun j hj => by rw [Nat.zero_add]; rw [Lib.byteCells_length] at hj; exact (hr j (by omega)).1) j (by rw [Lib.byteCells_length]; exact hj)
  rw [Nat.zero_add] at h
  rw [h]
  simp [Lib.byteCells]
theorem grown_set (w : World) (g : Nat) : ∀ (vs : List Value) (o : Nat), w.grownBy (w.setCells g o vs) (some g) := by
  intro vs
  induction vs generalizing w with
  | nil => intro o; exact ⟨rfl, rfl, rfl, Nat.le_refl _, fun _ _ _ => rfl⟩
  | cons v vs ih =>
    intro o
    have h1 : w.grownBy (w.setCell ⟨g, o, none⟩ v) (some g) := ⟨rfl, rfl, rfl, by simp [World.setCell], fun k _ hk => Below.heap_setCell _ _ _ _ (fun e => hk (by rw [e]))⟩
    exact h1.trans (ih (w.setCell ⟨g, o, none⟩ v) (o + 1))

theorem byteCells_one (l : List UInt8) : ∀ u ∈ Lib.byteCells l, u.oneCell' = true := by
  intro u hu
  simp only [Lib.byteCells, List.mem_map] at hu
  obtain ⟨b, _, rfl⟩ := hu
  rfl
theorem srcStr (l : List UInt8) (w : World) : Src Tryd.prog 1 9 (.string ⟨l.toArray⟩) l.length (Lib.byteCells l) w := by
  have := Src.ofString (P := Tryd.prog) w Tryd.underlying9 ⟨l.toArray⟩
  have e1 : (⟨l.toArray⟩ : ByteArray).size = l.length := by simp [ByteArray.size]
  have e2 : byteCells (⟨l.toArray⟩ : ByteArray) = Lib.byteCells l := rfl
  rw [e1, e2] at this
  exact this

set_option maxHeartbeats 2000000 in
set_option maxRecDepth 100000 in
theorem au_small (u : Nat) (hu : u < 100) (g : Nat) (w : World) (hr : Room w g) :
    Calls Tryd.prog 16 #[.slice (some ⟨g, 0, none⟩) 0 20, .int .u64 (u : Int), .int .i64 10] w fun e w' => e = .returned (.slice (some ⟨g, 0, none⟩) (Lib.decDigits u).length 20) ∧ Lies w' g (Lib.decDigits u) ∧ w.grownBy w' (some g) := by
  have hlen : (Lib.decDigits u).length ≤ 20 := by
    rw [Lib.decDigits_length]
    by_cases h10 : u < 10
    · rw [Lib.nDigits_small h10]; omega
    · rw [Lib.nDigits_big h10, Lib.nDigits_small (show u / 10 < 10 by omega)]; omega
  have HL : Hid (Lies (w.setCells g 0 (Lib.byteCells (Lib.decDigits u))) g (Lib.decDigits u)) := lies_set hr hlen
  have hsrc := srcStr (Lib.decDigits u) w
  have HR : Hid (Room w g) := hr
  clear hr
  have HS := Lib.hid (Tryd.internal_strconv_small u hu)
  generalize Lib.decDigits u = l at hlen HL hsrc HS
  have HSrc : Hid (Src Tryd.prog 1 9 (.string ⟨l.toArray⟩) l.length (Lib.byteCells l) w) := hsrc
  clear hsrc
  go_enter Tryd.func16, Tryd.ntmps16
  go_wp2_with (first
    | (go_at_call 17; refine (HS.out _).mono ?_; rintro e w' ⟨rfl, rfl⟩)
    | (at_builtin; refine wpList_append_room1 _ rfl _ _ 22 9 rfl 5 (.int .u8 0) 1 Tryd.underlying22 Tryd.info5 g 0 0 20 rfl _ rfl l.length (Lib.byteCells l) HSrc.out (by omega) (fun j hj => by rw [Lib.byteCells_length] at hj; simpa using (HR.out j (by omega)).1) (fun j hj => by rw [Lib.byteCells_length] at hj; simpa using (HR.out j (by omega)).2) ?_))
  go_ret
  exact ⟨rfl, HL.out, grown_set _ _ _ _⟩

theorem room_kept {w w' : World} {g : Nat} (h : Room w g) (e : w'.heap[g]? = w.heap[g]?) : Room w' g := fun j hj => by
  have c1 : w'.cell? ⟨g, j, none⟩ = w.cell? ⟨g, j, none⟩ := World.cell?_of_block (a := ⟨g, j, none⟩) e
  have c2 : w'.frozen? ⟨g, j, none⟩ = w.frozen? ⟨g, j, none⟩ := World.frozen?_of_block (a := ⟨g, j, none⟩) e
  rw [c1, c2]
  exact h j hj

/-- 'a[:nd]'. -/
theorem slice_head (B n : Nat) (hn : n ≤ 24) (W : World) : (Instr.sliceAt 42 (.pointer (some ⟨B, 0, none⟩)) none (some (.int .i64 (n : Int))) none).run Tryd.prog W = .ok (.slice (some ⟨B, 0, none⟩) n 24) W := by
  have hal : Tryd.prog.arrayLen 42 = 24 := by simp [Program.arrayLen, Tryd.underlying42]
  rw [run_sliceAt_array_h W 42 ⟨B, 0, none⟩ (by simp [Program.arrayLen, Program.elem, Tryd.underlying42]) .i64 (n : Int) (by omega) (by rw [hal]; omega)]
  go_simp

set_option maxHeartbeats 4000000 in
set_option maxRecDepth 100000 in
theorem au_big (u : Nat) (hu : 100 ≤ u) (hu64 : u ≤ 9223372036854775807) (g : Nat) (w : World) (hr : Room w g) (hg : g < w.heap.size) (htab : Lib.TabIs Tryd.prog w powName .u64 Lib.pow10Tab) :
    Calls Tryd.prog 16 #[.slice (some ⟨g, 0, none⟩) 0 20, .int .u64 (u : Int), .int .i64 10] w fun e w' => e = .returned (.slice (some ⟨g, 0, none⟩) (Lib.decDigits u).length 20) ∧ Lies w' g (Lib.decDigits u) ∧ w.grownBy w' (some g) := by
  have hu1 : 1 ≤ u := by omega
  have hu64' : u < 18446744073709551616 := by omega
  have hnd20 : Lib.nDigits u ≤ 20 := by have := Lib.numDigits_eq u hu1 hu64'; split at this <;> omega
  have hsl := slice_head w.heap.size (Lib.nDigits u) (by omega)
  have hH0 := Lib.holds_zero0 w 42 (Lib.nDigits u) (by omega)
  have hfmt := Tryd.internal_strconv_formatBase10 w.heap.size 0 24 u (Array.replicate (Lib.nDigits u) 0) (w.alloc (.cells Lib.zeros24 42)) hH0 (by rw [Array.size_replicate]; exact Lib.lt_pow_nDigits u) hu64' (by rw [Array.size_replicate]; omega)
  rw [Array.size_replicate] at hfmt
  have HH0 := Lib.hid hH0
  have HF := Lib.hid hfmt
  have HR := Lib.hid hr
  have HT : Hid (Calls Tryd.prog 18 #[.int .u64 (u : Int)] (w.alloc (.cells Lib.zeros24 42)) fun e w' => e = .returned (.int .i64 (Lib.nDigits u : Int)) ∧ w' = w.alloc (.cells Lib.zeros24 42)) := Any.internal_strconv_numDigits Tryd.laysM284 u hu1 hu64' (w.alloc (.cells Lib.zeros24 42)) (Lib.tabIs_alloc htab _)
  have iu : ¬ (u : Int) < 100 := by omega
  clear hH0 hfmt hr htab
  go_enter Tryd.func16, Tryd.ntmps16
  go_wp2_with fail
  refine HT.out.mono ?_
  rintro e w' ⟨rfl, rfl⟩
  go_wp2_with fail
  refine HF.out.mono ?_
  rintro e w' ⟨rfl, k, v', dk, rfl, hF⟩
  -- the world that formatBase10 leaves: the old one, draws, new blocks; the array's first places hold the numeral
  have hcells : ∀ j u', (Lib.byteCells (Lib.decDigits u))[j]? = some u' → ((putRow (fun (b : UInt8) => Value.int .u8 (b.toNat : Int)) (w.alloc (.cells Lib.zeros24 42)) w.heap.size 0 dk).drewN k).cell? ((⟨w.heap.size, 0, none⟩ : Addr).add j) = some u' := by
    intro j u' hj
    have hjl : j < (Lib.decDigits u).length := by
      have h5 := (List.getElem?_eq_some_iff.1 hj).1
      rwa [Lib.byteCells_length] at h5
    have e5 : (Lib.byteCells (Lib.decDigits u))[j]? = some (Value.int .u8 ((Lib.decDigits u)[j].toNat : Int)) := by simp [Lib.byteCells, hjl]
    rw [e5] at hj
    cases hj
    rw [Lib.row_is_numeral hF j hjl, Lib.add_plain, World.cell?_drewN]
    exact cell?_putRow (fun (b : UInt8) => Value.int .u8 (b.toNat : Int)) _ w.heap.size 0 _ dk HH0.out (by rw [hF.size, Array.size_replicate]) j (by rw [hF.size]; rw [Lib.decDigits_length] at hjl; exact hjl)
  obtain ⟨os, eo⟩ := Lib.fin_at w (.cells Lib.zeros24 42) dk k 0
  have hroom2 : Room ((putRow (fun (b : UInt8) => Value.int .u8 (b.toNat : Int)) (w.alloc (.cells Lib.zeros24 42)) w.heap.size 0 dk).drewN k) g := by rw [eo]; exact room_kept HR.out (Lib.heap_grow_old w k os g hg)
  have hnx2 : Below w.heap.size w ((putRow (fun (b : UInt8) => Value.int .u8 (b.toNat : Int)) (w.alloc (.cells Lib.zeros24 42)) w.heap.size 0 dk).drewN k) := by rw [eo]; exact Lib.below_grow w.heap.size w (Nat.le_refl _) k os
  generalize (putRow (fun (b : UInt8) => Value.int .u8 (b.toNat : Int)) (w.alloc (.cells Lib.zeros24 42)) w.heap.size 0 dk).drewN k = W2 at hcells hroom2 hnx2 ⊢
  have hlen : (Lib.decDigits u).length ≤ 20 := by rw [Lib.decDigits_length]; exact hnd20
  have HL : Hid (Lies (W2.setCells g 0 (Lib.byteCells (Lib.decDigits u))) g (Lib.decDigits u)) := lies_set hroom2 hlen
  have hgr : w.grownBy W2 (some g) := ⟨hnx2.os, hnx2.tape, hnx2.output, hnx2.size, fun k hk _ => hnx2.block k hk⟩
  have HG : Hid (w.grownBy (W2.setCells g 0 (Lib.byteCells (Lib.decDigits u))) (some g)) := hgr.trans (grown_set W2 g _ 0)
  have hdl := Lib.decDigits_length u
  have HSrc : Hid (Src Tryd.prog 1 22 (.slice (some ⟨w.heap.size, 0, none⟩) (Lib.nDigits u) 24) (Lib.nDigits u) (Lib.byteCells (Lib.decDigits u)) W2) := Src.ofSlice W2 Tryd.underlying22 ⟨w.heap.size, 0, none⟩ (Lib.nDigits u) 24 _ (by rw [Lib.byteCells_length, hdl, Nat.mul_one]) hcells (byteCells_one _)
  have HR2 := Lib.hid hroom2
  have hnl : (Lib.byteCells (Lib.decDigits u)).length = Lib.nDigits u := by rw [Lib.byteCells_length, hdl]
  have HN := Lib.hid hnl
  have HDL := Lib.hid hdl
  clear hcells hroom2 hnx2 eo HH0 HF HT hF HR hgr hdl hnl hlen
  go_wp2_with (at_builtin; refine wpList_append_room1 _ rfl _ _ 22 22 rfl 5 (.int .u8 0) 1 Tryd.underlying22 Tryd.info5 g 0 0 20 rfl _ rfl (Lib.nDigits u) (Lib.byteCells (Lib.decDigits u)) HSrc.out (by omega) (fun j hj => by rw [HN.out] at hj; simpa using (HR2.out j (by omega)).1) (fun j hj => by rw [HN.out] at hj; simpa using (HR2.out j (by omega)).2) ?_)
  go_ret
  exact ⟨by rw [HDL.out]; rfl, HL.out, HG.out⟩

/-- internal/strconv.AppendUint at base 10. -/
theorem au_any (u : Nat) (hu64 : u ≤ 9223372036854775807) (g : Nat) (w : World) (hr : Room w g) (hg : g < w.heap.size) (htab : Lib.TabIs Tryd.prog w powName .u64 Lib.pow10Tab) :
    Calls Tryd.prog 16 #[.slice (some ⟨g, 0, none⟩) 0 20, .int .u64 (u : Int), .int .i64 10] w fun e w' => e = .returned (.slice (some ⟨g, 0, none⟩) (Lib.decDigits u).length 20) ∧ Lies w' g (Lib.decDigits u) ∧ w.grownBy w' (some g) := by
  by_cases h : u < 100
  · exact au_small u h g w hr
  · exact au_big u (by omega) hu64 g w hr hg htab

/-- internal/strconv.AppendInt at base 10, i not negative. -/
theorem ai_any (u : Nat) (hu64 : u ≤ 9223372036854775807) (g : Nat) (w : World) (hr : Room w g) (hg : g < w.heap.size) (htab : Lib.TabIs Tryd.prog w powName .u64 Lib.pow10Tab) :
    Calls Tryd.prog 15 #[.slice (some ⟨g, 0, none⟩) 0 20, .int .i64 (u : Int), .int .i64 10] w fun e w' => e = .returned (.slice (some ⟨g, 0, none⟩) (Lib.decDigits u).length 20) ∧ Lies w' g (Lib.decDigits u) ∧ w.grownBy w' (some g) := by
  have HK := Lib.hid (au_any u hu64 g w hr hg htab)
  clear hr htab
  go_enter Tryd.func15, Tryd.ntmps15
  go_wp2_with (go_at_call 16; refine HK.out.mono ?_; rintro e w' ⟨rfl, hl, hg'⟩)
  go_ret
  exact ⟨rfl, hl, hg'⟩

/-- strconv.AppendInt at base 10, i not negative. -/
theorem appendInt_any (u : Nat) (hu64 : u ≤ 9223372036854775807) (g : Nat) (w : World) (hr : Room w g) (hg : g < w.heap.size) (htab : Lib.TabIs Tryd.prog w powName .u64 Lib.pow10Tab) :
    Calls Tryd.prog 14 #[.slice (some ⟨g, 0, none⟩) 0 20, .int .i64 (u : Int), .int .i64 10] w fun e w' => e = .returned (.slice (some ⟨g, 0, none⟩) (Lib.decDigits u).length 20) ∧ Lies w' g (Lib.decDigits u) ∧ w.grownBy w' (some g) := by
  have HK := Lib.hid (ai_any u hu64 g w hr hg htab)
  clear hr htab
  go_enter Tryd.func14, Tryd.ntmps14
  go_wp2_with (go_at_call 15; refine HK.out.mono ?_; rintro e w' ⟨rfl, hl, hg'⟩)
  go_ret
  exact ⟨rfl, hl, hg'⟩
end Go.Proofs.Qxb6000142aDoor
