/-
  A comment of one block printed as text: Printer.Text walked, in its four ways.
-/
import Derived.Test.YtmjeokabbmigjaaDoorHm
import Derived.Test.YtmjeokabbmigjaaDoorTc
import Derived.Deep.RegionHeld3
namespace Go.Proofs.YtmjeokabbmigjaaDoor
open Go.RowKit

/-- The cells of a textPrinter. -/
def tpCells (pb : Nat) (p c : ByteArray) (wd : Int) : Array Value := #[.pointer (some ⟨pb, 0, none⟩), .pointer none, .slice none 0 0, .string p, .string c, .int .i64 wd]

/-- What is asked of the block's printing. -/
def BlkOk (w : World) (pb : Nat) (x : Value) (L : List UInt8) (p c : ByteArray) (wd : Int) : Prop :=
  ∀ w1 b, w.heap.size + 1 ≤ b → w1.heap[w.heap.size]? = some (.cells (tpCells pb p c wd) 94 (0, 0)) → Bf b b [] w1 → Below w.heap.size w w1 → b + 1 ≤ w1.heap.size →
    Calls Tryd.prog 68 #[.pointer (some ⟨w.heap.size, 0, none⟩), .pointer (some ⟨b, 0, none⟩), x] w1 fun e w' => e = .returned (.tuple #[]) ∧ Bf b b L w' ∧ Wr b b w1 w'

theorem alloc_size' (w : World) (o : Obj) : (w.alloc o).heap.size = w.heap.size + 1 := by simp

theorem tp_set (pb : Nat) (p c : ByteArray) (wd z : Int) : (tpCells pb p c wd).setIfInBounds 5 (.int .i64 z) = tpCells pb p c z := rfl
theorem size_set (w : World) (a : Addr) (v : Value) : (w.setCell a v).heap.size = w.heap.size := by simp [World.setCell]

theorem fresh_bf (w : World) : Bf w.heap.size w.heap.size [] (w.alloc (.cells #[.slice none 0 0, .int .i64 0, .int .i8 0] 107)) := Lib.fresh_isBuffer 107 5 w

set_option maxHeartbeats 4000000 in
set_option maxRecDepth 1000000 in
theorem w40_aa {w : World} (n wd : Int) (p c u : ByteArray) (pb db cb ccap : Nat) (ccs : Array Value) (x : Value) (L : List UInt8) (hp : w.heap[pb]? = some (.cells (prCells n wd p c u) 101 (0, 0)))
    (hd : w.heap[db]? = some (.cells #[.slice (some ⟨cb, 0, none⟩) 1 ccap, .slice none 0 0] 111 (0, 0))) (hc : w.heap[cb]? = some (.cells ccs 113 (0, 0))) (hx : ccs[0]? = some x) (_hps : p.size ≤ 1000)
    (hcne : c.data.toList ≠ []) (hw0 : wd ≠ 0) (hblk : BlkOk w pb x L p c wd) :
    Calls Tryd.prog 40 #[.pointer (some ⟨pb, 0, none⟩), .pointer (some ⟨db, 0, none⟩)] w (BytesPost L w) := by
  have lpb := Lib.lt_of_heap hp
  have ldb := Lib.lt_of_heap hd
  have lcb := Lib.lt_of_heap hc
  have p4 : w.cell? ⟨pb, 4, none⟩ = some (.string p) := Lib.cell_of_heap hp 4
  have p5 : w.cell? ⟨pb, 5, none⟩ = some (.string c) := Lib.cell_of_heap hp 5
  have p6 : w.cell? ⟨pb, 6, none⟩ = some (.int .i64 wd) := Lib.cell_of_heap hp 6
  have c0 : w.cell? ⟨db, 0, none⟩ = some (.slice (some ⟨cb, 0, none⟩) 1 ccap) := Lib.cell_of_heap hd 0
  have c2 : w.cell? ⟨db, 1, none⟩ = some (.slice none 0 0) := Lib.cell_of_heap hd 1
  have c1 : w.cell? ⟨cb, 0, none⟩ = some x := (Lib.cell_of_heap hc 0).trans hx
  have HK := Lib.hid hblk
  have hce : c.toList.isEmpty = false := not_empty hcne
  clear hblk hd hc hp
  go_enter Tryd.func40, Tryd.ntmps40
  go_wp2_with fail
  go_region_held3 (fun w' => w'.cell? ⟨pb, 4, none⟩ = some (.string p) ∧ w'.cell? ⟨pb, 5, none⟩ = some (.string c) ∧ w'.cell? ⟨pb, 6, none⟩ = some (.int .i64 wd)) (first | go_keep) (first | fail)
  go_wp2_with fail
  obtain ⟨w1, hw1⟩ : ∃ w1, w1 = ((w.alloc (.cells (tpCells pb p c wd) 94)).alloc (.cells #[.slice none 0 0, .int .i64 0, .int .i8 0] 107)).drew := ⟨_, rfl⟩
  have K1 : Hid (w1.heap[w.heap.size]? = some (.cells (tpCells pb p c wd) 94 (0, 0))) := Lib.hid (by rw [hw1]; exact (Below.heap_alloc _ _ _ (by simp)).trans (heap_alloc_new w _))
  have HF : Hid (Bf (w.heap.size + 1) (w.heap.size + 1) [] w1) := Lib.hid (by
    have hf := fresh_bf (w.alloc (.cells (tpCells pb p c wd) 94))
    rw [show (w.alloc (.cells (tpCells pb p c wd) 94)).heap.size = w.heap.size + 1 by simp] at hf
    rw [hw1]
    exact IsBuffer_carry hf (fun _ _ => rfl))
  have HB1 : Hid (Below w.heap.size w w1) := Lib.hid (by rw [hw1]; exact (((Below.refl _ w).alloc (Nat.le_refl _) _).alloc (by simp) _).drew)
  have hs1 : w.heap.size + 2 ≤ w1.heap.size := by
    have : w1.heap.size = w.heap.size + 2 := by rw [hw1]; show ((w.alloc _).alloc _).heap.size = _; simp
    omega
  have d0 : w1.cell? ⟨db, 0, none⟩ = some (.slice (some ⟨cb, 0, none⟩) 1 ccap) := (HB1.out.cell (p := ⟨db, 0, none⟩) ldb).trans c0
  have d1 : w1.cell? ⟨cb, 0, none⟩ = some x := (HB1.out.cell (p := ⟨cb, 0, none⟩) lcb).trans c1
  unfold tpCells at hw1
  rw [← hw1]
  clear hw1
  refine wp_loop_rounds 2 ?_
  rw [rounds_succ]
  go_wp2_with fail
  refine (HK.out w1 (w.heap.size + 1) (by omega) K1.out HF.out HB1.out (by omega)).mono ?_
  rintro e w2 ⟨rfl, h2, hw2⟩
  have H2 := Lib.hid h2
  have HB2 : Hid (Below w.heap.size w w2) := Lib.hid (HB1.out.trans (hw2.below.mono (by omega)))
  have e2 : w2.cell? ⟨db, 1, none⟩ = some (.slice none 0 0) := (HB2.out.cell (p := ⟨db, 1, none⟩) ldb).trans c2
  clear h2 hw2
  go_wp2_with fail
  rw [rounds_succ]
  go_wp2_with fail
  refine wp_loop_rounds 1 ?_
  rw [rounds_succ]
  go_wp2_with fail
  refine (Tryd.Buffer_Bytes _ _ _ w2 H2.out).mono ?_
  rintro e w3 ⟨v, rfl, hown, k, rfl⟩
  have HO := Lib.hid hown
  clear hown
  go_wp2_with fail
  go_ret
  refine ⟨v, rfl, ?_, ?_⟩
  · have := ownsRow_mono (B' := w.heap.size) HO.out (by omega)
    rwa [Lib.byteCells_length] at this
  · exact HB2.out.trans ⟨rfl, rfl, rfl, Nat.le_refl _, fun _ _ => rfl⟩

set_option maxHeartbeats 4000000 in
set_option maxRecDepth 1000000 in
theorem w40_ba {w : World} (n wd : Int) (p u : ByteArray) (pb db cb ccap : Nat) (ccs : Array Value) (x : Value) (L : List UInt8) (hp : w.heap[pb]? = some (.cells (prCells n wd p ⟨#[]⟩ u) 101 (0, 0)))
    (hd : w.heap[db]? = some (.cells #[.slice (some ⟨cb, 0, none⟩) 1 ccap, .slice none 0 0] 111 (0, 0))) (hc : w.heap[cb]? = some (.cells ccs 113 (0, 0))) (hx : ccs[0]? = some x) (hps : p.size ≤ 1000)
    (hw0 : wd ≠ 0) (hblk : BlkOk w pb x L p (p ++ ⟨#[9]⟩) wd) :
    Calls Tryd.prog 40 #[.pointer (some ⟨pb, 0, none⟩), .pointer (some ⟨db, 0, none⟩)] w (BytesPost L w) := by
  have lpb := Lib.lt_of_heap hp
  have ldb := Lib.lt_of_heap hd
  have lcb := Lib.lt_of_heap hc
  have p4 : w.cell? ⟨pb, 4, none⟩ = some (.string p) := Lib.cell_of_heap hp 4
  have p5 : w.cell? ⟨pb, 5, none⟩ = some (.string ⟨#[]⟩) := Lib.cell_of_heap hp 5
  have p6 : w.cell? ⟨pb, 6, none⟩ = some (.int .i64 wd) := Lib.cell_of_heap hp 6
  have c0 : w.cell? ⟨db, 0, none⟩ = some (.slice (some ⟨cb, 0, none⟩) 1 ccap) := Lib.cell_of_heap hd 0
  have c2 : w.cell? ⟨db, 1, none⟩ = some (.slice none 0 0) := Lib.cell_of_heap hd 1
  have c1 : w.cell? ⟨cb, 0, none⟩ = some x := (Lib.cell_of_heap hc 0).trans hx
  have HK := Lib.hid hblk
  clear hblk hd hc hp
  go_enter Tryd.func40, Tryd.ntmps40
  go_wp2_with fail
  go_region_held3 (fun w' => w'.cell? ⟨pb, 4, none⟩ = some (.string p) ∧ w'.cell? ⟨pb, 5, none⟩ = some (.string ⟨#[]⟩) ∧ w'.cell? ⟨pb, 6, none⟩ = some (.int .i64 wd)) (first | go_keep) (first | fail)
  go_wp2_with fail
  obtain ⟨w1, hw1⟩ : ∃ w1, w1 = ((w.alloc (.cells (tpCells pb p (p ++ ⟨#[9]⟩) wd) 94)).alloc (.cells #[.slice none 0 0, .int .i64 0, .int .i8 0] 107)).drew := ⟨_, rfl⟩
  have K1 : Hid (w1.heap[w.heap.size]? = some (.cells (tpCells pb p (p ++ ⟨#[9]⟩) wd) 94 (0, 0))) := Lib.hid (by rw [hw1]; exact (Below.heap_alloc _ _ _ (by simp)).trans (heap_alloc_new w _))
  have HF : Hid (Bf (w.heap.size + 1) (w.heap.size + 1) [] w1) := Lib.hid (by
    have hf := fresh_bf (w.alloc (.cells (tpCells pb p (p ++ ⟨#[9]⟩) wd) 94))
    rw [show (w.alloc (.cells (tpCells pb p (p ++ ⟨#[9]⟩) wd) 94)).heap.size = w.heap.size + 1 by simp] at hf
    rw [hw1]
    exact IsBuffer_carry hf (fun _ _ => rfl))
  have HB1 : Hid (Below w.heap.size w w1) := Lib.hid (by rw [hw1]; exact (((Below.refl _ w).alloc (Nat.le_refl _) _).alloc (by simp) _).drew)
  have hs1 : w.heap.size + 2 ≤ w1.heap.size := by
    have : w1.heap.size = w.heap.size + 2 := by rw [hw1]; show ((w.alloc _).alloc _).heap.size = _; simp
    omega
  have d0 : w1.cell? ⟨db, 0, none⟩ = some (.slice (some ⟨cb, 0, none⟩) 1 ccap) := (HB1.out.cell (p := ⟨db, 0, none⟩) ldb).trans c0
  have d1 : w1.cell? ⟨cb, 0, none⟩ = some x := (HB1.out.cell (p := ⟨cb, 0, none⟩) lcb).trans c1
  unfold tpCells at hw1
  rw [← hw1]
  clear hw1
  refine wp_loop_rounds 2 ?_
  rw [rounds_succ]
  go_wp2_with fail
  refine (HK.out w1 (w.heap.size + 1) (by omega) K1.out HF.out HB1.out (by omega)).mono ?_
  rintro e w2 ⟨rfl, h2, hw2⟩
  have H2 := Lib.hid h2
  have HB2 : Hid (Below w.heap.size w w2) := Lib.hid (HB1.out.trans (hw2.below.mono (by omega)))
  have e2 : w2.cell? ⟨db, 1, none⟩ = some (.slice none 0 0) := (HB2.out.cell (p := ⟨db, 1, none⟩) ldb).trans c2
  clear h2 hw2
  go_wp2_with fail
  rw [rounds_succ]
  go_wp2_with fail
  refine wp_loop_rounds 1 ?_
  rw [rounds_succ]
  go_wp2_with fail
  refine (Tryd.Buffer_Bytes _ _ _ w2 H2.out).mono ?_
  rintro e w3 ⟨v, rfl, hown, k, rfl⟩
  have HO := Lib.hid hown
  clear hown
  go_wp2_with fail
  go_ret
  refine ⟨v, rfl, ?_, ?_⟩
  · have := ownsRow_mono (B' := w.heap.size) HO.out (by omega)
    rwa [Lib.byteCells_length] at this
  · exact HB2.out.trans ⟨rfl, rfl, rfl, Nat.le_refl _, fun _ _ => rfl⟩

set_option maxHeartbeats 4000000 in
set_option maxRecDepth 1000000 in
theorem w40_ab {w : World} (n : Int) (p c u : ByteArray) (pb db cb ccap : Nat) (ccs : Array Value) (x : Value) (L : List UInt8) (hp : w.heap[pb]? = some (.cells (prCells n 0 p c u) 101 (0, 0)))
    (hd : w.heap[db]? = some (.cells #[.slice (some ⟨cb, 0, none⟩) 1 ccap, .slice none 0 0] 111 (0, 0))) (hc : w.heap[cb]? = some (.cells ccs 113 (0, 0))) (hx : ccs[0]? = some x) (hps : p.size ≤ 1000)
    (hcne : c.data.toList ≠ []) (hblk : BlkOk w pb x L p c (80 - (Lib.runeCount p : Int))) :
    Calls Tryd.prog 40 #[.pointer (some ⟨pb, 0, none⟩), .pointer (some ⟨db, 0, none⟩)] w (BytesPost L w) := by
  have lpb := Lib.lt_of_heap hp
  have ldb := Lib.lt_of_heap hd
  have lcb := Lib.lt_of_heap hc
  have p4 : w.cell? ⟨pb, 4, none⟩ = some (.string p) := Lib.cell_of_heap hp 4
  have p5 : w.cell? ⟨pb, 5, none⟩ = some (.string c) := Lib.cell_of_heap hp 5
  have p6 : w.cell? ⟨pb, 6, none⟩ = some (.int .i64 0) := Lib.cell_of_heap hp 6
  have c0 : w.cell? ⟨db, 0, none⟩ = some (.slice (some ⟨cb, 0, none⟩) 1 ccap) := Lib.cell_of_heap hd 0
  have c2 : w.cell? ⟨db, 1, none⟩ = some (.slice none 0 0) := Lib.cell_of_heap hd 1
  have c1 : w.cell? ⟨cb, 0, none⟩ = some x := (Lib.cell_of_heap hc 0).trans hx
  have HK := Lib.hid hblk
  have hce : c.toList.isEmpty = false := not_empty hcne
  clear hblk hd hc hp
  go_enter Tryd.func40, Tryd.ntmps40
  go_wp2_with fail
  go_region_held3 (fun w' => w'.cell? ⟨pb, 4, none⟩ = some (.string p) ∧ w'.cell? ⟨pb, 5, none⟩ = some (.string c) ∧ w'.cell? ⟨pb, 6, none⟩ = some (.int .i64 0)) (first | go_keep) (first | fail)
  have hrc : (Lib.runeCount p : Int) ≤ 1000 := by have := Lib.runeCount_le p; omega
  go_wp2_with fail
  refine (Tryd.utf8_RuneCountInString p _ (by omega)).mono ?_
  rintro e w2 ⟨rfl, pos, rfl⟩
  obtain ⟨w2, hw2⟩ : ∃ w2, w2 = ((w.alloc (.cells (tpCells pb p c 0) 94)).drew.iter p pos) := ⟨_, rfl⟩
  have K2 : Hid (w2.heap[w.heap.size]? = some (.cells (tpCells pb p c 0) 94 (0, 0))) := Lib.hid (by rw [hw2]; exact (Below.heap_alloc (w.alloc (.cells (tpCells pb p c 0) 94)).drew _ _ (by simp)).trans (heap_alloc_new w _))
  have B2 : Hid (Below w.heap.size w w2) := Lib.hid (by rw [hw2]; exact (((Below.refl _ w).alloc (Nat.le_refl _) _).drew).alloc (by simp) _)
  have s2 : w2.heap.size = w.heap.size + 2 := by rw [hw2]; show ((w.alloc _).drew.alloc _).heap.size = _; simp
  have j5 : w2.cell? ⟨w.heap.size, 5, none⟩ = some (.int .i64 0) := Lib.cell_of_heap K2.out 5
  have f5 : w2.frozen? ⟨w.heap.size, 5, none⟩ = false := Lib.frozen_of_heap K2.out 5
  have S2 := Lib.hid s2
  have g0 : w2.cell? ⟨db, 0, none⟩ = some (.slice (some ⟨cb, 0, none⟩) 1 ccap) := (B2.out.cell (p := ⟨db, 0, none⟩) ldb).trans c0
  have g1 : w2.cell? ⟨cb, 0, none⟩ = some x := (B2.out.cell (p := ⟨cb, 0, none⟩) lcb).trans c1
  have ndb : db ≠ w.heap.size := by omega
  have ncb : cb ≠ w.heap.size := by omega
  have ldb2 : db < w2.heap.size := by omega
  have lcb2 : cb < w2.heap.size := by omega
  unfold tpCells at hw2
  rw [← hw2]
  clear hw2 s2
  go_wp2_with fail
  generalize hz : (80 - (Lib.runeCount p : Int)) = z at *
  clear hz hrc
  obtain ⟨w1, hw1⟩ : ∃ w1, w1 = (w2.setCell ⟨w.heap.size, 5, none⟩ (.int .i64 z)).alloc (.cells #[.slice none 0 0, .int .i64 0, .int .i8 0] 107) := ⟨_, rfl⟩
  have hs2 : (w2.setCell ⟨w.heap.size, 5, none⟩ (.int .i64 z)).heap.size = w.heap.size + 2 := by rw [size_set, S2.out]
  have K1 : Hid (w1.heap[w.heap.size]? = some (.cells (tpCells pb p c z) 94 (0, 0))) := Lib.hid (by
    rw [hw1, Below.heap_alloc _ _ _ (by rw [hs2]; omega)]
    exact (Lib.heap_setCell_same (i := 5) K2.out (.int .i64 z)).trans (by rw [tp_set]))
  have HF : Hid (Bf w2.heap.size w2.heap.size [] w1) := Lib.hid (by
    have hf := fresh_bf (w2.setCell ⟨w.heap.size, 5, none⟩ (.int .i64 z))
    rw [size_set] at hf
    rw [hw1]
    exact hf)
  have HB1 : Hid (Below w.heap.size w w1) := Lib.hid (by rw [hw1]; exact (B2.out.setCell (p := ⟨w.heap.size, 5, none⟩) (Nat.le_refl _) _).alloc (by rw [hs2]; omega) _)
  have hs1 : w.heap.size + 3 ≤ w1.heap.size := by
    have : w1.heap.size = w.heap.size + 3 := by rw [hw1]; show ((World.setCell w2 _ _).alloc _).heap.size = _; rw [alloc_size', hs2]
    omega
  have d0 : w1.cell? ⟨db, 0, none⟩ = some (.slice (some ⟨cb, 0, none⟩) 1 ccap) := (HB1.out.cell (p := ⟨db, 0, none⟩) ldb).trans c0
  have d1 : w1.cell? ⟨cb, 0, none⟩ = some x := (HB1.out.cell (p := ⟨cb, 0, none⟩) lcb).trans c1
  rw [← hw1]
  clear hw1 hs2
  refine wp_loop_rounds 2 ?_
  rw [rounds_succ]
  go_wp2_with fail
  refine (HK.out w1 w2.heap.size (by have := S2.out; omega) K1.out HF.out HB1.out (by have := S2.out; omega)).mono ?_
  rintro e w4 ⟨rfl, h2, hw4⟩
  have H2 := Lib.hid h2
  have HB2 : Hid (Below w.heap.size w w4) := Lib.hid (HB1.out.trans (hw4.below.mono (by have := S2.out; omega)))
  have e2 : w4.cell? ⟨db, 1, none⟩ = some (.slice none 0 0) := (HB2.out.cell (p := ⟨db, 1, none⟩) ldb).trans c2
  clear h2 hw4
  go_wp2_with fail
  rw [rounds_succ]
  go_wp2_with fail
  refine wp_loop_rounds 1 ?_
  rw [rounds_succ]
  go_wp2_with fail
  refine (Tryd.Buffer_Bytes _ _ _ w4 H2.out).mono ?_
  rintro e w3 ⟨v, rfl, hown, k, rfl⟩
  have HO := Lib.hid hown
  clear hown
  go_wp2_with fail
  go_ret
  refine ⟨v, rfl, ?_, ?_⟩
  · have := ownsRow_mono (B' := w.heap.size) HO.out (by have := S2.out; omega)
    rwa [Lib.byteCells_length] at this
  · exact HB2.out.trans ⟨rfl, rfl, rfl, Nat.le_refl _, fun _ _ => rfl⟩

set_option maxHeartbeats 4000000 in
set_option maxRecDepth 1000000 in
theorem w40_bb {w : World} (n : Int) (p u : ByteArray) (pb db cb ccap : Nat) (ccs : Array Value) (x : Value) (L : List UInt8) (hp : w.heap[pb]? = some (.cells (prCells n 0 p ⟨#[]⟩ u) 101 (0, 0)))
    (hd : w.heap[db]? = some (.cells #[.slice (some ⟨cb, 0, none⟩) 1 ccap, .slice none 0 0] 111 (0, 0))) (hc : w.heap[cb]? = some (.cells ccs 113 (0, 0))) (hx : ccs[0]? = some x) (hps : p.size ≤ 1000)
     (hblk : BlkOk w pb x L p (p ++ ⟨#[9]⟩) (80 - (Lib.runeCount p : Int))) :
    Calls Tryd.prog 40 #[.pointer (some ⟨pb, 0, none⟩), .pointer (some ⟨db, 0, none⟩)] w (BytesPost L w) := by
  have lpb := Lib.lt_of_heap hp
  have ldb := Lib.lt_of_heap hd
  have lcb := Lib.lt_of_heap hc
  have p4 : w.cell? ⟨pb, 4, none⟩ = some (.string p) := Lib.cell_of_heap hp 4
  have p5 : w.cell? ⟨pb, 5, none⟩ = some (.string ⟨#[]⟩) := Lib.cell_of_heap hp 5
  have p6 : w.cell? ⟨pb, 6, none⟩ = some (.int .i64 0) := Lib.cell_of_heap hp 6
  have c0 : w.cell? ⟨db, 0, none⟩ = some (.slice (some ⟨cb, 0, none⟩) 1 ccap) := Lib.cell_of_heap hd 0
  have c2 : w.cell? ⟨db, 1, none⟩ = some (.slice none 0 0) := Lib.cell_of_heap hd 1
  have c1 : w.cell? ⟨cb, 0, none⟩ = some x := (Lib.cell_of_heap hc 0).trans hx
  have HK := Lib.hid hblk
  clear hblk hd hc hp
  go_enter Tryd.func40, Tryd.ntmps40
  go_wp2_with fail
  go_region_held3 (fun w' => w'.cell? ⟨pb, 4, none⟩ = some (.string p) ∧ w'.cell? ⟨pb, 5, none⟩ = some (.string ⟨#[]⟩) ∧ w'.cell? ⟨pb, 6, none⟩ = some (.int .i64 0)) (first | go_keep) (first | fail)
  have hrc : (Lib.runeCount p : Int) ≤ 1000 := by have := Lib.runeCount_le p; omega
  go_wp2_with fail
  refine (Tryd.utf8_RuneCountInString p _ (by omega)).mono ?_
  rintro e w2 ⟨rfl, pos, rfl⟩
  obtain ⟨w2, hw2⟩ : ∃ w2, w2 = ((w.alloc (.cells (tpCells pb p (p ++ ⟨#[9]⟩) 0) 94)).drew.iter p pos) := ⟨_, rfl⟩
  have K2 : Hid (w2.heap[w.heap.size]? = some (.cells (tpCells pb p (p ++ ⟨#[9]⟩) 0) 94 (0, 0))) := Lib.hid (by rw [hw2]; exact (Below.heap_alloc (w.alloc (.cells (tpCells pb p (p ++ ⟨#[9]⟩) 0) 94)).drew _ _ (by simp)).trans (heap_alloc_new w _))
  have B2 : Hid (Below w.heap.size w w2) := Lib.hid (by rw [hw2]; exact (((Below.refl _ w).alloc (Nat.le_refl _) _).drew).alloc (by simp) _)
  have s2 : w2.heap.size = w.heap.size + 2 := by rw [hw2]; show ((w.alloc _).drew.alloc _).heap.size = _; simp
  have j5 : w2.cell? ⟨w.heap.size, 5, none⟩ = some (.int .i64 0) := Lib.cell_of_heap K2.out 5
  have f5 : w2.frozen? ⟨w.heap.size, 5, none⟩ = false := Lib.frozen_of_heap K2.out 5
  have S2 := Lib.hid s2
  have g0 : w2.cell? ⟨db, 0, none⟩ = some (.slice (some ⟨cb, 0, none⟩) 1 ccap) := (B2.out.cell (p := ⟨db, 0, none⟩) ldb).trans c0
  have g1 : w2.cell? ⟨cb, 0, none⟩ = some x := (B2.out.cell (p := ⟨cb, 0, none⟩) lcb).trans c1
  have ndb : db ≠ w.heap.size := by omega
  have ncb : cb ≠ w.heap.size := by omega
  have ldb2 : db < w2.heap.size := by omega
  have lcb2 : cb < w2.heap.size := by omega
  unfold tpCells at hw2
  rw [← hw2]
  clear hw2 s2
  go_wp2_with fail
  generalize hz : (80 - (Lib.runeCount p : Int)) = z at *
  clear hz hrc
  obtain ⟨w1, hw1⟩ : ∃ w1, w1 = (w2.setCell ⟨w.heap.size, 5, none⟩ (.int .i64 z)).alloc (.cells #[.slice none 0 0, .int .i64 0, .int .i8 0] 107) := ⟨_, rfl⟩
  have hs2 : (w2.setCell ⟨w.heap.size, 5, none⟩ (.int .i64 z)).heap.size = w.heap.size + 2 := by rw [size_set, S2.out]
  have K1 : Hid (w1.heap[w.heap.size]? = some (.cells (tpCells pb p (p ++ ⟨#[9]⟩) z) 94 (0, 0))) := Lib.hid (by
    rw [hw1, Below.heap_alloc _ _ _ (by rw [hs2]; omega)]
    exact (Lib.heap_setCell_same (i := 5) K2.out (.int .i64 z)).trans (by rw [tp_set]))
  have HF : Hid (Bf w2.heap.size w2.heap.size [] w1) := Lib.hid (by
    have hf := fresh_bf (w2.setCell ⟨w.heap.size, 5, none⟩ (.int .i64 z))
    rw [size_set] at hf
    rw [hw1]
    exact hf)
  have HB1 : Hid (Below w.heap.size w w1) := Lib.hid (by rw [hw1]; exact (B2.out.setCell (p := ⟨w.heap.size, 5, none⟩) (Nat.le_refl _) _).alloc (by rw [hs2]; omega) _)
  have hs1 : w.heap.size + 3 ≤ w1.heap.size := by
    have : w1.heap.size = w.heap.size + 3 := by rw [hw1]; show ((World.setCell w2 _ _).alloc _).heap.size = _; rw [alloc_size', hs2]
    omega
  have d0 : w1.cell? ⟨db, 0, none⟩ = some (.slice (some ⟨cb, 0, none⟩) 1 ccap) := (HB1.out.cell (p := ⟨db, 0, none⟩) ldb).trans c0
  have d1 : w1.cell? ⟨cb, 0, none⟩ = some x := (HB1.out.cell (p := ⟨cb, 0, none⟩) lcb).trans c1
  rw [← hw1]
  clear hw1 hs2
  refine wp_loop_rounds 2 ?_
  rw [rounds_succ]
  go_wp2_with fail
  refine (HK.out w1 w2.heap.size (by have := S2.out; omega) K1.out HF.out HB1.out (by have := S2.out; omega)).mono ?_
  rintro e w4 ⟨rfl, h2, hw4⟩
  have H2 := Lib.hid h2
  have HB2 : Hid (Below w.heap.size w w4) := Lib.hid (HB1.out.trans (hw4.below.mono (by have := S2.out; omega)))
  have e2 : w4.cell? ⟨db, 1, none⟩ = some (.slice none 0 0) := (HB2.out.cell (p := ⟨db, 1, none⟩) ldb).trans c2
  clear h2 hw4
  go_wp2_with fail
  rw [rounds_succ]
  go_wp2_with fail
  refine wp_loop_rounds 1 ?_
  rw [rounds_succ]
  go_wp2_with fail
  refine (Tryd.Buffer_Bytes _ _ _ w4 H2.out).mono ?_
  rintro e w3 ⟨v, rfl, hown, k, rfl⟩
  have HO := Lib.hid hown
  clear hown
  go_wp2_with fail
  go_ret
  refine ⟨v, rfl, ?_, ?_⟩
  · have := ownsRow_mono (B' := w.heap.size) HO.out (by have := S2.out; omega)
    rwa [Lib.byteCells_length] at this
  · exact HB2.out.trans ⟨rfl, rfl, rfl, Nat.le_refl _, fun _ _ => rfl⟩

/-- The prefix of code. -/
def cpOf (p c : ByteArray) : ByteArray := if c.data.toList = [] then p ++ ⟨#[9]⟩ else c
/-- The width of text. -/
def wdOf (p : ByteArray) (wd : Int) : Int := if wd = 0 then 80 - (Lib.runeCount p : Int) else wd

theorem w40 {w : World} (n wd : Int) (p c u : ByteArray) (pb db cb ccap : Nat) (ccs : Array Value) (x : Value) (L : List UInt8) (hp : w.heap[pb]? = some (.cells (prCells n wd p c u) 101 (0, 0)))
    (hd : w.heap[db]? = some (.cells #[.slice (some ⟨cb, 0, none⟩) 1 ccap, .slice none 0 0] 111 (0, 0))) (hc : w.heap[cb]? = some (.cells ccs 113 (0, 0))) (hx : ccs[0]? = some x) (hps : p.size ≤ 1000)
    (hblk : BlkOk w pb x L p (cpOf p c) (wdOf p wd)) :
    Calls Tryd.prog 40 #[.pointer (some ⟨pb, 0, none⟩), .pointer (some ⟨db, 0, none⟩)] w (BytesPost L w) := by
  by_cases hc0 : c.data.toList = []
  · obtain rfl : c = ⟨#[]⟩ := by
      obtain ⟨⟨l⟩⟩ := c
      simp at hc0
      rw [hc0]
    rw [show cpOf p ⟨#[]⟩ = p ++ ⟨#[9]⟩ from if_pos rfl] at hblk
    by_cases hw : wd = 0
    · subst hw
      exact w40_bb n p u pb db cb ccap ccs x L hp hd hc hx hps hblk
    · rw [show wdOf p wd = wd from if_neg hw] at hblk
      exact w40_ba n wd p u pb db cb ccap ccs x L hp hd hc hx hps hw hblk
  · rw [show cpOf p c = c from if_neg hc0] at hblk
    by_cases hw : wd = 0
    · subst hw
      exact w40_ab n p c u pb db cb ccap ccs x L hp hd hc hx hps hc0 hblk
    · rw [show wdOf p wd = wd from if_neg hw] at hblk
      exact w40_aa n wd p c u pb db cb ccap ccs x L hp hd hc hx hps hc0 hw hblk

end Go.Proofs.YtmjeokabbmigjaaDoor
