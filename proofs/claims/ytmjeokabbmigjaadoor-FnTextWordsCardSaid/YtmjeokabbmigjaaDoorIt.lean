/-
  impl.Text walked: the three calls in whatever order.
-/
import Derived.Test.YtmjeokabbmigjaaDoorIm
namespace Go.Proofs.YtmjeokabbmigjaaDoor
open Go.RowKit

set_option maxHeartbeats 4000000 in
set_option maxRecDepth 100000 in
theorem w20 {D : World → Nat → Prop} {L : List UInt8} (n wd : Int) (p c u : ByteArray) (k : Nat) (w : World) (hL0 : L ≠ [])
    (h41 : ∀ w', Below w.heap.size w w' → Calls Tryd.prog 41 #[.agg #[.slice (some ⟨k, 0, none⟩) 1 1, .slice none 0 0]] w' fun e w'' => ∃ db, e = .returned (.pointer (some ⟨db, 0, none⟩)) ∧ D w'' db ∧ Below w'.heap.size w' w'')
    (h40 : ∀ w' pb db, Below w.heap.size w w' → w'.heap[pb]? = some (.cells (prCells n wd p c u) 101 (0, 0)) → D w' db → Calls Tryd.prog 40 #[.pointer (some ⟨pb, 0, none⟩), .pointer (some ⟨db, 0, none⟩)] w' (BytesPost L w')) :
    Calls Tryd.prog 20 #[.agg (lookCells n wd p c u), .agg #[.slice (some ⟨k, 0, none⟩) 1 1, .slice none 0 0]] w fun e w' => e = .returned (.string ⟨L.toArray⟩) ∧ Below w.heap.size w w' := by
  have K41 := Lib.hid h41
  have K40 := Lib.hid h40
  clear h41 h40
  unfold lookCells
  go_enter Tryd.func20, Tryd.ntmps20
  go_wp2_with fail
  obtain ⟨w0, hw0⟩ : ∃ w0, w0 = ((w.alloc (.cells (lookCells n wd p c u) 31)).alloc (.cells #[.slice (some ⟨k, 0, none⟩) 1 1, .slice none 0 0] 42)) := ⟨_, rfl⟩
  have sz0 : w0.heap.size = w.heap.size + 2 := by rw [hw0]; simp
  have H0 : Hid (w0.heap[w.heap.size]? = some (.cells (lookCells n wd p c u) 31 (0, 0))) := Lib.hid (by
    rw [hw0, Below.heap_alloc _ _ _ (by simp)]
    exact heap_alloc_new w _)
  have H1 : Hid (w0.heap[w.heap.size + 1]? = some (.cells #[.slice (some ⟨k, 0, none⟩) 1 1, .slice none 0 0] 42 (0, 0))) := Lib.hid (by
    rw [hw0]
    have := heap_alloc_new (w.alloc (.cells (lookCells n wd p c u) 31)) (.cells #[.slice (some ⟨k, 0, none⟩) 1 1, .slice none 0 0] 42)
    simpa using this)
  have HB0 : Hid (Below w.heap.size w w0) := Lib.hid (by rw [hw0]; exact ((Below.refl _ w).alloc (Nat.le_refl _) _).alloc (by simp) _)
  have cellL : ∀ i, w0.cell? ⟨w.heap.size, i, none⟩ = (lookCells n wd p c u)[i]? := fun i => Lib.cell_of_heap H0.out i
  have cellD : ∀ i, w0.cell? ⟨w.heap.size + 1, i, none⟩ = #[.slice (some ⟨k, 0, none⟩) 1 1, .slice none 0 0][i]? := fun i => Lib.cell_of_heap H1.out i
  have a0 : w0.cell? ⟨w.heap.size, 0, none⟩ = some (.int .i64 n) := cellL 0
  have a1 : w0.cell? ⟨w.heap.size, 1, none⟩ = some (.string p) := cellL 1
  have a2 : w0.cell? ⟨w.heap.size, 2, none⟩ = some (.string c) := cellL 2
  have a3 : w0.cell? ⟨w.heap.size, 3, none⟩ = some (.int .i64 wd) := cellL 3
  have a4 : w0.cell? ⟨w.heap.size, 4, none⟩ = some (.string u) := cellL 4
  have b0 : w0.cell? ⟨w.heap.size + 1, 0, none⟩ = some (.slice (some ⟨k, 0, none⟩) 1 1) := cellD 0
  have b1 : w0.cell? ⟨w.heap.size + 1, 1, none⟩ = some (.slice none 0 0) := cellD 1
  have lt0 : w.heap.size < w0.heap.size := by omega
  have lt1 : w.heap.size + 1 < w0.heap.size := by omega
  have HBd : Hid (Below w.heap.size w w0.drew) := Lib.hid (HB0.out.trans ⟨rfl, rfl, rfl, Nat.le_refl _, fun _ _ => rfl⟩)
  clear cellL cellD
  unfold lookCells at hw0
  rw [← hw0]
  clear hw0
  go_region_with (first
    | (go_at_call 39
       refine (w39s n wd p c u w0.drew).mono ?_
       rintro e wp ⟨pb, rfl, hpb, hpB⟩
       have HBp : Hid (Below w.heap.size w wp) := Lib.hid (HBd.out.trans (hpB.mono (show w.heap.size ≤ w0.heap.size by omega)))
       have HPB := Lib.hid hpb
       have p0 : wp.cell? ⟨w.heap.size + 1, 0, none⟩ = some (.slice (some ⟨k, 0, none⟩) 1 1) := (hpB.cell (p := ⟨w.heap.size + 1, 0, none⟩) lt1).trans b0
       have p1 : wp.cell? ⟨w.heap.size + 1, 1, none⟩ = some (.slice none 0 0) := (hpB.cell (p := ⟨w.heap.size + 1, 1, none⟩) lt1).trans b1
       clear hpB hpb)
    | (go_at_call 41
       refine (K41.out w0.drew HBd.out).mono ?_
       rintro e w1 ⟨db, rfl, hd, hb⟩
       have HB1 : Hid (Below w.heap.size w w1) := Lib.hid (HBd.out.trans (hb.mono (show w.heap.size ≤ w0.heap.size by omega)))
       have HD := Lib.hid hd
       have q0 : w1.cell? ⟨w.heap.size, 0, none⟩ = some (.int .i64 n) := (hb.cell (p := ⟨w.heap.size, 0, none⟩) lt0).trans a0
       have q1 : w1.cell? ⟨w.heap.size, 1, none⟩ = some (.string p) := (hb.cell (p := ⟨w.heap.size, 1, none⟩) lt0).trans a1
       have q2 : w1.cell? ⟨w.heap.size, 2, none⟩ = some (.string c) := (hb.cell (p := ⟨w.heap.size, 2, none⟩) lt0).trans a2
       have q3 : w1.cell? ⟨w.heap.size, 3, none⟩ = some (.int .i64 wd) := (hb.cell (p := ⟨w.heap.size, 3, none⟩) lt0).trans a3
       have q4 : w1.cell? ⟨w.heap.size, 4, none⟩ = some (.string u) := (hb.cell (p := ⟨w.heap.size, 4, none⟩) lt0).trans a4
       clear hb hd)
    | (go_at_call 41
       refine (K41.out wp HBp.out).mono ?_
       rintro e w1 ⟨db, rfl, hd, hb⟩
       have HBf : Hid (Below w.heap.size w w1) := Lib.hid (HBp.out.trans (hb.mono HBp.out.size))
       have HPF : Hid (w1.heap[pb]? = some (.cells (prCells n wd p c u) 101 (0, 0))) := Lib.hid ((hb.block _ (Lib.lt_of_heap HPB.out)).trans HPB.out)
       have HDF := Lib.hid hd
       clear hb hd)
    | (go_at_call 40
       refine (K40.out w1 pb db HBf.out HPF.out HDF.out).mono ?_
       rintro e w3 ⟨v, rfl, hown, hb3⟩
       obtain ⟨a, cap, rfl, hconv⟩ := conv_own hown hL0
       have HE : Hid (Below w.heap.size w w3) := Lib.hid (HBf.out.trans (hb3.mono HBf.out.size))
       clear hown hb3)
    | (go_at_call 40
       refine (K40.out wp pb db HBf.out HPF.out HDF.out).mono ?_
       rintro e w3 ⟨v, rfl, hown, hb3⟩
       obtain ⟨a, cap, rfl, hconv⟩ := conv_own hown hL0
       have HE : Hid (Below w.heap.size w w3) := Lib.hid (HBf.out.trans (hb3.mono HBf.out.size))
       clear hown hb3))
  all_goals
    go_wp2_with fail
    go_ret
    exact ⟨rfl, HE.out⟩

end Go.Proofs.YtmjeokabbmigjaaDoor
