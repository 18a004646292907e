/-
  mdPrinter.raw: a nil bytes.Buffer that is a field: grow walked for it; nothing else but the printer's own block is turned.
-/
import Derived.Test.YtmjeokabbmigjaaDoorNl
import Derived.Deep.RegionHeld3
import Derived.Deep.RegionWith
import Derived.Deep.Draws
import Derived.BigCall
import Derived.BigGuard
import Derived.IntWalk
import Derived.WalkLawsBesides
namespace Go.Proofs.YtmjeokabbmigjaaDoor
open Go.RowKit

/-- The cells of an mdPrinter whose raw buffer's row is v. -/
def mpCells (pb : Nat) (hp : ByteArray) (v : Value) (lr : Int) : Array Value := #[.pointer (some ⟨pb, 0, none⟩), .string hp, v, .int .i64 0, .int .i8 lr]

theorem raw_zero {b pb : Nat} {hp : ByteArray} {lr : Int} {w : World} (h : w.heap[b]? = some (.cells (mpCells pb hp (.slice none 0 0) lr) 137 (0, 0))) :
    LibA.IsBuffer 137 (fun i => if i < 2 then (mpCells pb hp (.slice none 0 0) lr)[i]? else none) 5 b b 2 [] w := by
  refine LibA.zero_isBuffer (Nat.le_refl _) (lr := lr) ⟨_, h, rfl, rfl, rfl, ?_⟩
  intro i hi
  by_cases h2 : i < 2
  · exact (if_pos h2).symm
  · refine Eq.trans ?_ (if_neg h2).symm
    exact Array.getElem?_eq_none (by have : (mpCells pb hp (.slice none 0 0) lr).size = 5 := rfl; omega)

theorem nilsl (w : World) : (binOp .eql 50 (.slice none 0 0) (.slice none 0 0)).run Tryd.prog w = .ok (.bool true) w := by kernel_rfl

theorem size_set' (w : World) (a : Addr) (v : Value) : (w.setCell a v).heap.size = w.heap.size := by simp [World.setCell]
theorem alloc_size2 (w : World) (o : Obj) : (w.alloc o).heap.size = w.heap.size + 1 := by simp

/-- Every block of w but b stands in w'. -/
structure KeptBut (b : Nat) (w w' : World) : Prop where
  os : w'.os = w.os
  tape : w'.tape = w.tape
  output : w'.output = w.output
  size : w.heap.size ≤ w'.heap.size
  block : ∀ k, k < w.heap.size → k ≠ b → w'.heap[k]? = w.heap[k]?

theorem KeptBut.below {b : Nat} {w w' : World} (h : KeptBut b w w') {B : Nat} (hB : B ≤ b) (hBw : B ≤ w.heap.size) : Below B w w' := ⟨h.os, h.tape, h.output, h.size, fun k hk => h.block k (by omega) (by omega)⟩
theorem KeptBut.refl (b : Nat) (w : World) : KeptBut b w w := ⟨rfl, rfl, rfl, Nat.le_refl _, fun _ _ _ => rfl⟩
theorem KeptBut.trans {b : Nat} {w1 w2 w3 : World} (h : KeptBut b w1 w2) (k : KeptBut b w2 w3) : KeptBut b w1 w3 :=
  ⟨k.os.trans h.os, k.tape.trans h.tape, k.output.trans h.output, Nat.le_trans h.size k.size, fun i hi hb => (k.block i (Nat.lt_of_lt_of_le hi h.size) hb).trans (h.block i hi hb)⟩

/-- What grow of a nil buffer leaves: a fresh row with room for n. -/
def GrowPost (b pb n : Nat) (hp : ByteArray) (lr : Int) (w : World) (e : Ending) (w' : World) : Prop :=
  ∃ cap cur, e = .returned (.int .i64 0) ∧ w'.heap[b]? = some (.cells (mpCells pb hp (.slice (some ⟨w.heap.size, 0, none⟩) n cap) lr) 137 (0, 0)) ∧ w'.heap[w.heap.size]? = some (.cells cur 5 (0, 0)) ∧ cur.size = cap ∧ n ≤ cap ∧ cap ≤ maxLen ∧ KeptBut b w w'

set_option maxHeartbeats 1000000 in
set_option maxRecDepth 100000 in
theorem w88_small (b pb n : Nat) (hp : ByteArray) (lr : Int) (w : World) (h : w.heap[b]? = some (.cells (mpCells pb hp (.slice none 0 0) lr) 137 (0, 0))) (hn : 1 ≤ n) (h64 : n ≤ 64) :
    Calls Tryd.prog 88 #[.pointer (some ⟨b, 2, none⟩), .int .i64 n] w (GrowPost b pb n hp lr w) := by
  obtain ⟨i0, hi, hz0, hz1, hz2⟩ := info_parts infoByte
  obtain ⟨M, hM⟩ : ∃ M, M = madeCells (Value.int .u8 0).cells ((64 : Int).toNat * i0.size) := ⟨_, rfl⟩
  have hMs : M.size = 64 := by rw [hM, size_madeCells, hz1]; rfl
  have mk : ∀ W : World, (Instr.makeSlice 50 (.int .i64 (n : Int)) (.int .i64 64)).run Tryd.prog W = .ok (.slice (some ⟨W.heap.size, 0, none⟩) n 64) (W.alloc (.cells M 5)) := fun W => by
    have h := run_makeSlice (P := Tryd.prog) W 50 5 i0 (.int .u8 0) Tryd.underlying50 hi hz0 .i64 .i64 (n : Int) 64 (by omega) (by omega) (by rw [hz1]; decide) (by rw [hz2]; decide) (by decide)
    rw [← hM] at h
    simpa using h
  clear hM hi hz0 hz1 hz2
  have hlt := Lib.lt_of_heap h
  have K0 := Lib.hid (Tryd.Buffer_Len_at _ _ _ _ _ _ _ (raw_zero h))
  have d0 : w.cell? ⟨b, 2, none⟩ = some (.slice none 0 0) := Lib.cell_of_heap h 2
  have H := Lib.hid h
  have HM := Lib.hid hMs
  have ns := nilsl
  clear h hMs
  go_enter Tryd.func88, Tryd.ntmps88
  go_wp2_with fail
  refine K0.out.mono ?_
  rintro e w1 ⟨rfl, k, hw1⟩
  have hs : w1.heap.size = w.heap.size := by rw [hw1]; rfl
  have hh : w1.heap[b]? = some (.cells (mpCells pb hp (.slice none 0 0) lr) 137 (0, 0)) := by rw [hw1]; exact H.out
  have hk1 : KeptBut b w w1 := by rw [hw1]; exact ⟨rfl, rfl, rfl, Nat.le_refl _, fun _ _ _ => rfl⟩
  have e0 : w1.cell? ⟨b, 2, none⟩ = some (.slice none 0 0) := Lib.cell_of_heap hh 2
  have e1 : w1.cell? ⟨b, 3, none⟩ = some (.int .i64 0) := Lib.cell_of_heap hh 3
  have hlt1 : b < w1.heap.size := by omega
  have f0a : ∀ o, (w1.alloc o).frozen? ⟨b, 2, none⟩ = false := fun o => Lib.frozen_of_heap ((Below.heap_alloc w1 o b hlt1).trans hh) 2
  have e0a : ∀ o, (w1.alloc o).cell? ⟨b, 2, none⟩ = some (.slice none 0 0) := fun o => Lib.cell_of_heap ((Below.heap_alloc w1 o b hlt1).trans hh) 2
  have HH := Lib.hid hh
  have HS := Lib.hid hs
  have HK := Lib.hid hk1
  clear hh hs hk1 hw1
  go_wp2_with fail
  refine (Tryd.Buffer_tryGrow_none_at b 2 none 0 0 n w1 e0 (Nat.le_refl _) (by decide) (by omega)).mono ?_
  rintro e w1' ⟨rfl, rfl⟩
  go_wp2_with fail
  go_ret
  have hA : (w1'.alloc (.cells M 5)).heap[b]? = some (.cells (mpCells pb hp (.slice none 0 0) lr) 137 (0, 0)) := (Below.heap_alloc w1' _ b hlt1).trans HH.out
  refine ⟨64, M, rfl, ?_, ?_, HM.out, h64, by decide, ?_⟩
  · have := Lib.heap_setCell_same (i := 2) HH.out (.slice (some ⟨w1'.heap.size, 0, none⟩) n 64)
    rw [← HS.out]
    exact (Below.heap_alloc _ _ b (by rw [size_set']; exact hlt1)).trans this
  · rw [← HS.out]
    have := heap_alloc_new (w1'.setCell ⟨b, 2, none⟩ (.slice (some ⟨w1'.heap.size, 0, none⟩) n 64)) (.cells M 5)
    rw [size_set'] at this
    exact this
  · refine HK.out.trans ⟨rfl, rfl, rfl, ?_, ?_⟩
    · rw [alloc_size2, size_set']; omega
    · intro k hk hkb
      rw [Below.heap_alloc _ _ k (by rw [size_set']; exact hk)]
      exact Below.heap_setCell _ _ _ _ hkb

theorem grow_end {b pb n cap2 : Nat} {lr : Int} {hp : ByteArray} {w w1 w2 : World} {cells : Array Value} (HK : KeptBut b w w1) (HS : w1.heap.size = w.heap.size) (hb2 : Below w1.heap.size w1 w2) (HC1 : w2.heap[w1.heap.size]? = some (.cells cells 5 (0, 0)))
    (HQ : w2.heap[b]? = some (.cells (mpCells pb hp (.slice none 0 0) lr) 137 (0, 0))) (hlt1 : b < w1.heap.size) (hc2 : cells.size = cap2) (hc3 : n ≤ cap2) (hc4 : cap2 ≤ maxLen) :
    GrowPost b pb n hp lr w (.returned (.int .i64 0)) (((w2.setCell ⟨b, 2, none⟩ (.slice (some ⟨w1.heap.size, 0, none⟩) 0 cap2)).setCell ⟨b, 3, none⟩ (.int .i64 0)).setCell ⟨b, 2, none⟩ (.slice (some ⟨w1.heap.size, 0, none⟩) n cap2)) := by
  have hne : ∀ k, k ≠ b → (((w2.setCell ⟨b, 2, none⟩ (.slice (some ⟨w1.heap.size, 0, none⟩) 0 cap2)).setCell ⟨b, 3, none⟩ (.int .i64 0)).setCell ⟨b, 2, none⟩ (.slice (some ⟨w1.heap.size, 0, none⟩) n cap2)).heap[k]? = w2.heap[k]? := fun k hk =>
    (Below.heap_setCell _ _ _ _ hk).trans ((Below.heap_setCell _ _ _ _ hk).trans (Below.heap_setCell _ _ _ _ hk))
  refine ⟨cap2, cells, rfl, ?_, ?_, hc2, hc3, hc4, ?_⟩
  · rw [← HS]
    exact Lib.heap_setCell_same (i := 2) (Lib.heap_setCell_same (i := 3) (Lib.heap_setCell_same (i := 2) HQ _) _) _
  · rw [← HS, hne _ (by omega)]
    exact HC1
  · refine HK.trans ⟨hb2.os, hb2.tape, hb2.output, ?_, fun k hk hkb => (hne k hkb).trans (hb2.block k hk)⟩
    rw [size_set', size_set', size_set']
    exact hb2.size

set_option maxHeartbeats 4000000 in
set_option maxRecDepth 100000 in
theorem w88_big (b pb n : Nat) (hp : ByteArray) (lr : Int) (w : World) (h : w.heap[b]? = some (.cells (mpCells pb hp (.slice none 0 0) lr) 137 (0, 0))) (h64 : 64 < n) (hlim : n ≤ 1000000) :
    Calls Tryd.prog 88 #[.pointer (some ⟨b, 2, none⟩), .int .i64 n] w (GrowPost b pb n hp lr w) := by
  have hlt := Lib.lt_of_heap h
  have K0 := Lib.hid (Tryd.Buffer_Len_at _ _ _ _ _ _ _ (raw_zero h))
  have d0 : w.cell? ⟨b, 2, none⟩ = some (.slice none 0 0) := Lib.cell_of_heap h 2
  have H := Lib.hid h
  have ns := nilsl
  have hn64 : ¬ ((n : Int) ≤ 64) := by omega
  clear h
  go_enter Tryd.func88, Tryd.ntmps88
  go_wp2_with fail
  refine K0.out.mono ?_
  rintro e w1 ⟨rfl, k, hw1⟩
  have hs : w1.heap.size = w.heap.size := by rw [hw1]; rfl
  have hh : w1.heap[b]? = some (.cells (mpCells pb hp (.slice none 0 0) lr) 137 (0, 0)) := by rw [hw1]; exact H.out
  have hk1 : KeptBut b w w1 := by rw [hw1]; exact ⟨rfl, rfl, rfl, Nat.le_refl _, fun _ _ _ => rfl⟩
  have e0 : w1.cell? ⟨b, 2, none⟩ = some (.slice none 0 0) := Lib.cell_of_heap hh 2
  have e1 : w1.cell? ⟨b, 3, none⟩ = some (.int .i64 0) := Lib.cell_of_heap hh 3
  have hlt1 : b < w1.heap.size := by omega
  have HH := Lib.hid hh
  have HS := Lib.hid hs
  have HK := Lib.hid hk1
  clear hh hs hk1 hw1
  go_wp2_with fail
  refine (Tryd.Buffer_tryGrow_none_at b 2 none 0 0 n w1 e0 (Nat.le_refl _) (by decide) (by omega)).mono ?_
  rintro e w1' ⟨rfl, rfl⟩
  go_wp2_with fail
  have hz1 : IntKind.i64.wrap (n : Int) = (n : Int) := IntWalk.i64_in _ (by omega)
  have hz2 : IntKind.i64.wrap (0 + (n : Int)) = (n : Int) := by rw [Int.zero_add]; exact hz1
  go_region_with (
       go_at_call 106
       refine (Tryd.bytes_growSlice_nil n _ (by omega) (by omega)).mono ?_
       rintro e w2 ⟨cap2, cells, rfl, hc1, hc2, hc3, hc4, hb2⟩
       have hq : w2.heap[b]? = some (.cells (mpCells pb hp (.slice none 0 0) lr) 137 (0, 0)) := (hb2.block b hlt1).trans HH.out
       have g0 : w2.cell? ⟨b, 2, none⟩ = some (.slice none 0 0) := Lib.cell_of_heap hq 2
       have g1 : w2.cell? ⟨b, 3, none⟩ = some (.int .i64 0) := Lib.cell_of_heap hq 3
       have g2 : w2.frozen? ⟨b, 2, none⟩ = false := Lib.frozen_of_heap hq 2
       have g3 : w2.frozen? ⟨b, 3, none⟩ = false := Lib.frozen_of_heap hq 3
       have HQ := Lib.hid hq
       have HC1 := Lib.hid hc1
       have HB2 := Lib.hid hb2
       clear hq hc1 hb2)
  all_goals (clear hz1 hz2; go_wp2_with fail; go_ret)
  all_goals exact grow_end HK.out HS.out ⟨HB2.out.os, HB2.out.tape, HB2.out.output, HB2.out.size, HB2.out.block⟩ HC1.out HQ.out hlt1 hc2 hc3 hc4

end Go.Proofs.YtmjeokabbmigjaaDoor
