/-
  mdPrinter.raw: the first WriteString into it; escape, rawText of a plain text; Reset of the nil buffer; Bytes.
-/
import Derived.Test.YtmjeokabbmigjaaDoorRw
import Derived.Lib.BufferWrite
namespace Go.Proofs.YtmjeokabbmigjaaDoor
open Go.RowKit

/-- The raw buffer in block b holds the text s. -/
def RawAt (b pb : Nat) (hp : ByteArray) (s : ByteArray) (w : World) : Prop :=
  ∃ g cap, w.heap[b]? = some (.cells (mpCells pb hp (.slice (some ⟨g, 0, none⟩) s.size cap) 0) 137 (0, 0)) ∧ s.size ≤ cap ∧ cap ≤ maxLen ∧ g ≠ b ∧ ∀ k (h : k < s.size), w.cell? ⟨g, k, none⟩ = some (.int .u8 (s[k]'h).toNat)

theorem w88 (b pb n : Nat) (hp : ByteArray) (lr : Int) (w : World) (h : w.heap[b]? = some (.cells (mpCells pb hp (.slice none 0 0) lr) 137 (0, 0))) (hn : 1 ≤ n) (hlim : n ≤ 1000000) :
    Calls Tryd.prog 88 #[.pointer (some ⟨b, 2, none⟩), .int .i64 n] w (GrowPost b pb n hp lr w) := by
  by_cases h64 : n ≤ 64
  · exact w88_small b pb n hp lr w h hn h64
  · exact w88_big b pb n hp lr w h (by omega) hlim

theorem infoSize5 : (Tryd.prog.info? 5).map (·.size) = some 1 := by kernel_rfl

set_option maxHeartbeats 2000000 in
set_option maxRecDepth 100000 in
theorem w66z (b pb : Nat) (hp s : ByteArray) (lr : Int) (w : World) (h : w.heap[b]? = some (.cells (mpCells pb hp (.slice none 0 0) lr) 137 (0, 0))) (hn : 1 ≤ s.size) (hlim : s.size ≤ 1000000) :
    Calls Tryd.prog 66 #[.pointer (some ⟨b, 2, none⟩), .string s] w fun e w' => e = .returned (.tuple #[.int .i64 s.size, .nilIface]) ∧ RawAt b pb hp s w' ∧ KeptBut b w w' := by
  have hlt := Lib.lt_of_heap h
  have d4 : w.cell? ⟨b, 4, none⟩ = some (.int .i8 lr) := Lib.cell_of_heap h 4
  have f4 : w.frozen? ⟨b, 4, none⟩ = false := Lib.frozen_of_heap h 4
  obtain ⟨w0, hw0⟩ : ∃ w0, w0 = w.setCell ⟨b, 4, none⟩ (.int .i8 0) := ⟨_, rfl⟩
  have h0 : w0.heap[b]? = some (.cells (mpCells pb hp (.slice none 0 0) 0) 137 (0, 0)) := by rw [hw0]; exact Lib.heap_setCell_same (i := 4) h _
  have hk0 : KeptBut b w w0 := by rw [hw0]; exact ⟨rfl, rfl, rfl, by rw [size_set']; exact Nat.le_refl _, fun k _ hkb => Below.heap_setCell _ _ _ _ hkb⟩
  have e0 : w0.cell? ⟨b, 2, none⟩ = some (.slice none 0 0) := Lib.cell_of_heap h0 2
  have H0 := Lib.hid h0
  have HK := Lib.hid hk0
  have HW0 := Lib.hid hw0
  clear h h0 hk0
  go_enter Tryd.func66, Tryd.ntmps66
  go_wp2_with fail
  rw [← HW0.out]
  clear hw0
  refine (Tryd.Buffer_tryGrow_none_at b 2 none 0 0 s.size w0 e0 (Nat.le_refl _) (by decide) (by omega)).mono ?_
  rintro e w0' ⟨rfl, hw⟩
  subst hw
  go_wp2_with fail
  refine (w88 b pb s.size hp 0 _ H0.out hn hlim).mono ?_
  rintro e w1 ⟨cap, cur, rfl, hb1, hg1, hcs, hnc, hcm, hk1⟩
  have c1 : w1.cell? ⟨b, 2, none⟩ = some (.slice (some ⟨_, 0, none⟩) s.size cap) := Lib.cell_of_heap hb1 2
  have hne : ¬ cap = 0 := by omega
  have hcp := Lib.run_copy_row_string (P := Tryd.prog) w1 50 9 3 5 _ 0 s.size cap s cur 5 Tryd.underlying50 infoSize5 hg1 (Nat.le_refl _) (by omega)
  have HB1 := Lib.hid hb1
  have HG1 := Lib.hid hg1
  have HK1 := Lib.hid hk1
  have hcm' := hcm
  unfold maxLen at hcm'
  clear hb1 hg1 hk1
  go_wp2_with fail
  go_ret2
  have hsb : w.heap.size ≤ w0'.heap.size := HK.out.size
  have hgb : w0'.heap.size ≠ b := by omega
  have hrow := setRow_heap w1 w0'.heap.size cur (Lib.byteCells s.data.toList ++ List.drop s.size cur.toList).toArray 5 (0, 0) HG1.out
  refine ⟨rfl, ⟨w0'.heap.size, cap, ?_, hnc, hcm, hgb, ?_⟩, ?_⟩
  · exact (setRow_other _ _ _ _ (Ne.symm hgb)).trans HB1.out
  · intro k hk
    rw [Lib.cell_of_heap hrow]
    have hk2 : k < (Lib.byteCells s.data.toList).length := by rw [Lib.byteCells_length, ← Lib.size_eq]; exact hk
    have hk3 : k < s.data.toList.length := by rw [← Lib.size_eq]; exact hk
    have h1 : (Lib.byteCells s.data.toList ++ List.drop s.size cur.toList)[k]? = some (.int .u8 (s.data.toList[k]).toNat) := by
      rw [List.getElem?_append_left hk2]
      unfold Lib.byteCells
      rw [List.getElem?_map, List.getElem?_eq_getElem hk3]
      rfl
    rw [List.getElem?_toArray]
    exact h1
  · refine HK.out.trans ⟨HK1.out.os, HK1.out.tape, HK1.out.output, ?_, fun k hk hkb => ?_⟩
    · have := HK1.out.size
      simpa [World.setRow] using this
    · exact (setRow_other _ _ _ _ (by omega)).trans (HK1.out.block k hk hkb)

end Go.Proofs.YtmjeokabbmigjaaDoor
