/-
  The law FnTextCode's main ways, walked.
-/
import Derived.Test.YtmjeokabbmigjaaDoorTl
namespace Go.Proofs.YtmjeokabbmigjaaDoor
open Go.RowKit

theorem fits_parts {p c u : ByteArray} (h : fitsB p c u = true) : p.size ≤ 2147483647 ∧ c.size ≤ 2147483647 ∧ u.size ≤ 2147483647 := by
  simpa [fitsB] using h

section
variable (n wd : Int) (p c u s : ByteArray) (w : World)

set_option maxHeartbeats 2000000 in
set_option maxRecDepth 100000 in
theorem w5_any (h : fitsB p c u = true) (hs : s.size ≤ 2147483647) (hw : linesB s.data.toList = true) (r : Bool) (ha : anyB (p ++ c).data.toList [10] = r) (hr : r = false → 100 < p.size + c.size) : Calls Tryd.prog 5 #[.agg (lookCells n wd p c u), .string s] w (LawPost w) := by
  obtain ⟨hp1, hc1, _⟩ := fits_parts h
  have c16 := fun w => w16 n wd p c u w
  unfold fitsB at h
  rw [h] at c16
  have c17 := fun w => w17 s w hs
  rw [hw] at c17
  have hpc : (p ++ c).size ≤ 8589934592 := by rw [ByteArray.size_append]; omega
  have c18 := fun w => w18 (p ++ c) ⟨#[10]⟩ w hpc (by decide)
  rw [show anyB (p ++ c).data.toList (⟨#[10]⟩ : ByteArray).data.toList = r from ha] at c18
  have C := Lib.hid c16
  have C17 := Lib.hid c17
  have C18 := Lib.hid c18
  clear c16 h c17 hw c18 ha hpc
  unfold lookCells at C ⊢
  go_enter Tryd.func5, Tryd.ntmps5
  go_wp2_with fail
  refine (C.out _).mono ?_
  rintro e w1 ⟨rfl, rfl⟩
  go_wp2_with fail
  refine (C17.out _).mono ?_
  rintro e w2 ⟨rfl, hb⟩
  have HB : Hid (Below w.heap.size w w2) := Lib.hid ((((Below.refl _ w).alloc (Nat.le_refl _) _).alloc (by simp) _).trans (hb.mono (by simp; omega)))
  have l0 : w.heap.size < w2.heap.size := by have := hb.size; simp at this; omega
  have H0 : Hid (w2.heap[w.heap.size]? = some (.cells (lookCells n wd p c u) 31 (0, 0))) := Lib.hid (by
    rw [hb.block _ (by simp; omega), Below.heap_alloc _ _ _ (by simp)]
    exact heap_alloc_new w _)
  have q1 : w2.cell? ⟨w.heap.size, 1, none⟩ = some (.string p) := Lib.cell_of_heap H0.out 1
  have q2 : w2.cell? ⟨w.heap.size, 2, none⟩ = some (.string c) := Lib.cell_of_heap H0.out 2
  clear hb
  go_wp2_with fail
  refine (C18.out _).mono ?_
  rintro e w3 ⟨rfl, hb3⟩
  have r1 : w3.cell? ⟨w.heap.size, 1, none⟩ = some (.string p) := (hb3.cell (p := ⟨w.heap.size, 1, none⟩) l0).trans q1
  have r2 : w3.cell? ⟨w.heap.size, 2, none⟩ = some (.string c) := (hb3.cell (p := ⟨w.heap.size, 2, none⟩) l0).trans q2
  have HB3 : Hid (Below w.heap.size w w3) := Lib.hid (HB.out.trans (hb3.mono (by omega)))
  clear hb3
  cases r with
  | true =>
    go_wp2_with fail
    go_ret
    exact ⟨rfl, HB3.out⟩
  | false =>
    have h100 := hr rfl
    have h101 : (100 : Int) < (p.size : Int) + (c.size : Int) := by omega
    go_wp2_with fail
    go_ret
    exact ⟨rfl, HB3.out⟩
end

theorem splitParts {s b : ByteArray} (hbe : s.data.toList = b.data.toList ++ [10]) (hl : linesB s.data.toList = true) : (∀ p ∈ splitL 10 b.data.toList, LineOk p) ∧ (splitL 10 b.data.toList).length ≤ 6 ∧ s.data.toList = unl (splitL 10 b.data.toList) := by
  unfold linesB at hl
  rw [hbe, List.dropLast_concat, Bool.and_eq_true, Bool.and_eq_true, List.all_eq_true] at hl
  refine ⟨fun p hp => lineOk_of (hl.2.1 p hp), by simpa using hl.2.2, ?_⟩
  rw [unl_join _ (splitL_ne 10 _), joinL_splitL, hbe]

end Go.Proofs.YtmjeokabbmigjaaDoor
