/-
  textPrinter.long, a nil strings.Builder that is a field: a plain text written into it, read, and the builder reset: behind it all that was there is as it was.
-/
import Derived.Test.YtmjeokabbmigjaaDoorPt
import Derived.Test.YtmjeokabbmigjaaDoorRw
set_option linter.unusedVariables false
set_option linter.unusedSimpArgs false
namespace Go.Proofs.YtmjeokabbmigjaaDoor
open Go.RowKit

/-- The cells of a textPrinter whose long holds v. -/
def longCells (b pb : Nat) (v : Value) (p c : ByteArray) (wd : Int) : Array Value := #[.pointer (some ⟨pb, 0, none⟩), .pointer (some ⟨b, 1, none⟩), v, .string p, .string c, .int .i64 wd]

/-- long holds the text s, in a row from B on. -/
def LongAt (b pb : Nat) (p c : ByteArray) (wd : Int) (s : ByteArray) (B : Nat) (w : World) : Prop :=
  ∃ v, w.heap[b]? = some (.cells (longCells b pb v p c wd) 94 (0, 0)) ∧ w.ownsRowF B 5 1 v s.size (Lib.byteCells s.data.toList)

theorem lies94 : liesAt Tryd.prog Tryd.prog.depth 94 (6 / Tryd.prog.cellsOf 94) 1 69 1 = true := by kernel_rfl

set_option maxHeartbeats 2000000 in
set_option maxRecDepth 100000 in
theorem w46n (b pb : Nat) (p c : ByteArray) (wd : Int) (s : ByteArray) (w : World) (h : w.heap[b]? = some (.cells (tpCells pb p c wd) 94 (0, 0))) (hs : s.size ≤ 1000000) :
    Calls Tryd.prog 46 #[.pointer (some ⟨b, 1, none⟩), .string s] w fun e w' => e = .returned (.tuple #[.int .i64 s.size, .nilIface]) ∧ LongAt b pb p c wd s w.heap.size w' ∧ KeptBut b w w' := by
  obtain ⟨i0, hi, hz0, hz1, hz2⟩ := info_parts infoByte
  have hlt := Lib.lt_of_heap h
  have c1 : w.cell? ⟨b, 1, none⟩ = some (.pointer none) := Lib.cell_of_heap h 1
  have hsh : w.shape? b = some (94, 6) := by simp [World.shape?, h, tpCells]
  have hfz : w.frozen? ⟨b, 1, none⟩ = false := Lib.frozen_of_heap h 1
  have H := Lib.hid h
  clear h
  go_enter Tryd.func46, Tryd.ntmps46
  go_wp2_with (go_at_call 72; refine (w72_fresh b 1 6 94 w c1 hsh hfz (by omega) lies94).mono ?_)
  rintro e w1 ⟨rfl, hw1⟩
  have h1 : w1.heap[b]? = some (.cells (longCells b pb (.slice none 0 0) p c wd) 94 (0, 0)) := by rw [← hw1]; exact Lib.heap_setCell_same (i := 1) H.out _
  have hk1 : KeptBut b w w1 := by rw [← hw1]; exact ⟨rfl, rfl, rfl, by rw [size_set']; exact Nat.le_refl _, fun k _ hkb => Below.heap_setCell _ _ _ _ hkb⟩
  have s1 : w1.heap.size = w.heap.size := by rw [← hw1, size_set']
  have c2 : w1.cell? ⟨b, 2, none⟩ = some (.slice none 0 0) := Lib.cell_of_heap h1 2
  have H1 := Lib.hid h1
  have HK1 := Lib.hid hk1
  have HS1 := Lib.hid s1
  clear h1 hk1 s1 hw1 c1 hsh hfz
  go_wp2_with (at_builtin; refine Lib.wpList_append_own_stringF _ rfl _ _ 50 9 rfl w.heap.size 5 i0 Tryd.underlying50 Tryd.underlying9 hi hz0 hz1 hz2 _ _ _ rfl (World.ownsRowF_nil _ _ _ _) s rfl ?c3 ?c4 ?c5 ?_)
  case c3 => unfold maxLen; omega
  case c4 => omega
  case c5 => have := HS1.out; omega
  intro v' w2 hown' hgrow _
  have hlt1 : b < w1.heap.size := Lib.lt_of_heap H1.out
  have hb2 : w2.heap[b]? = some (.cells (longCells b pb (.slice none 0 0) p c wd) 94 (0, 0)) := (hgrow.block b hlt1 (by simp [Value.ownBlock])).trans H1.out
  have d1 : w2.cell? ⟨b, 2, none⟩ = some (.slice none 0 0) := Lib.cell_of_heap hb2 2
  have f1 : w2.frozen? ⟨b, 2, none⟩ = false := Lib.frozen_of_heap hb2 2
  obtain ⟨ao, n', cap, rfl⟩ : ∃ ao n' cap, v' = .slice ao n' cap := by
    rcases hown'.2 with ⟨hv, _⟩ | ⟨g, cap, cur, fz, hv, _⟩
    · exact ⟨_, _, _, hv⟩
    · exact ⟨_, _, _, hv⟩
  have HB2 := Lib.hid hb2
  have HOW := Lib.hid hown'
  have HGR := Lib.hid hgrow
  clear hb2 hown' hgrow
  go_wp2
  go_ret2
  have hw : w.heap.size ≤ w1.heap.size := HK1.out.size
  refine ⟨rfl, ⟨_, Lib.heap_setCell_same (i := 2) HB2.out _, ?_⟩, ?_⟩
  · have h0 := HOW.out
    refine ⟨h0.1, ?_⟩
    rcases h0.2 with hn | ⟨g, cap', cur, fz, hv, hbg, hg, rest⟩
    · exact .inl hn
    · exact .inr ⟨g, cap', cur, fz, hv, hbg, (Below.heap_setCell _ _ _ _ (by show g ≠ b; omega)).trans hg, rest⟩
  · refine HK1.out.trans ⟨HGR.out.os, HGR.out.tape, HGR.out.output, by rw [size_set']; exact HGR.out.size, fun k hk hkb => (Below.heap_setCell _ _ _ _ hkb).trans (HGR.out.block k hk (by simp [Value.ownBlock]))⟩

set_option maxHeartbeats 1000000 in
set_option maxRecDepth 100000 in
theorem w59n (b pb A cap : Nat) (p c : ByteArray) (wd : Int) (tp : Value) (s : ByteArray) (w : World) (h : w.heap[b]? = some (.cells (tpCells pb p c wd) 94 (0, 0))) (hs : s.size ≤ 1000000) (hA : OneText w A cap s) :
    Calls Tryd.prog 59 #[tp, .pointer (some ⟨b, 1, none⟩), .slice (some ⟨A, 0, none⟩) 1 cap] w fun e w' => e = .returned (.tuple #[]) ∧ LongAt b pb p c wd s w.heap.size w' ∧ KeptBut b w w' := by
  have c0 := hA.cell
  have H := Lib.hid h
  have ta := ta85
  clear h hA
  go_enter Tryd.func59, Tryd.ntmps59
  go_wp2_with fail
  refine wp_loop_rounds 2 ?_
  rw [rounds_succ]
  go_wp2_with (go_at_call 46; refine (w46n b pb p c wd s w H.out hs).mono ?_)
  rintro e w1 ⟨rfl, h1, hw1⟩
  have H1 := Lib.hid h1
  have HW := Lib.hid hw1
  clear h1 hw1
  go_wp2_with fail
  rw [rounds_succ]
  go_wp2_with fail
  go_end0
  exact ⟨rfl, H1.out, HW.out⟩

set_option maxHeartbeats 2000000 in
set_option maxRecDepth 100000 in
theorem w47n {b pb B : Nat} {p c : ByteArray} {wd : Int} (s : ByteArray) {w : World} (h : LongAt b pb p c wd s B w) (hbB : b < B) (h0 : s.data.toList ≠ []) (hs : s.size ≤ 1000000) :
    Calls Tryd.prog 47 #[.pointer (some ⟨b, 1, none⟩)] w fun e w' => e = .returned (.string s) ∧ Below B w w' := by
  obtain ⟨v, hbk, hown⟩ := h
  have hsl := Lib.size_eq s
  have hl0 : s.size ≠ 0 := by
    intro e
    rw [hsl] at e
    exact h0 (List.eq_nil_of_length_eq_zero e)
  obtain ⟨g, cap, cur, fz, rfl, hbg, hg, hfz, hnc, hcm, hcs, htake⟩ : ∃ g cap cur fz, v = .slice (some ⟨g, 0, none⟩) s.size cap ∧ B ≤ g ∧ w.heap[g]? = some (.cells cur 5 fz) ∧ fz.2 ≤ s.size * 1 ∧ s.size ≤ cap ∧ cap ≤ maxLen ∧ cur.size = cap * 1 ∧ cur.toList.take (s.size * 1) = Lib.byteCells s.data.toList := by
    rcases hown.2 with ⟨_, hz⟩ | ⟨g, cap, cur, fz, hv, r⟩
    · exact absurd hz hl0
    · exact ⟨g, cap, cur, fz, hv, r⟩
  have c1 : w.drew.cell? ⟨b, 2, none⟩ = some (.slice (some ⟨g, 0, none⟩) s.size cap) := Lib.cell_of_heap (w := w.drew) hbk 2
  have hSD : (Builtin.unsafeSliceData_ #[50] 131 #[.slice (some ⟨g, 0, none⟩) s.size cap]).run Tryd.prog w.drew = .ok (.pointer (some ⟨g, 0, none⟩)) w.drew :=
    Lib.run_unsafeSliceData_row _ _ _ _ _ _ (by omega)
  have hUS : (Builtin.unsafeString_ #[131, 3] 9 #[.pointer (some ⟨g, 0, none⟩), .int .i64 s.size]).run Tryd.prog w.drew = .ok (.string s) (w.drew.freeze ⟨g, 0, none⟩ s.size) := by
    have := Lib.run_unsafeString_row w.drew 131 3 9 5 Tryd.underlying131 cellsByte g cur.size (by have hg' : w.drew.heap[g]? = some (.cells cur 5 fz) := hg; simp [World.shape?, hg']) s.data.toList h0 (by omega) (by unfold maxLen at hcm; omega) (by
      intro j x hx
      have := hown.cells (g := g) rfl j (.int .u8 x.toNat) (by simp [Lib.byteCells, hx])
      exact this)
    rw [mk_toArray, ← hsl] at this
    exact this
  have hw : Below B w (w.drew.freeze ⟨g, 0, none⟩ s.size) := Lib.below_freeze (Below.drew (Below.refl B w)) (p := ⟨g, 0, none⟩) hbg _
  have HW := Lib.hid hw
  clear hw hown htake hcs hfz hbk hsl
  go_enter Tryd.func47, Tryd.ntmps47
  go_wp2
  go_region
  all_goals (go_wp2; go_ret; exact ⟨rfl, HW.out⟩)

set_option maxHeartbeats 1000000 in
set_option maxRecDepth 100000 in
theorem w60n (b pb : Nat) (v : Value) (p c : ByteArray) (wd : Int) (w : World) (hbk : w.heap[b]? = some (.cells (longCells b pb v p c wd) 94 (0, 0))) :
    Calls Tryd.prog 60 #[.pointer (some ⟨b, 1, none⟩)] w fun e w' => e = .returned (.tuple #[]) ∧ w'.heap[b]? = some (.cells (tpCells pb p c wd) 94 (0, 0)) ∧ KeptBut b w w' := by
  have c0 : w.cell? ⟨b, 1, none⟩ = some (.pointer (some ⟨b, 1, none⟩)) := Lib.cell_of_heap hbk 1
  have c1 : w.cell? ⟨b, 2, none⟩ = some v := Lib.cell_of_heap hbk 2
  have f0 : w.frozen? ⟨b, 1, none⟩ = false := Lib.frozen_of_heap hbk 1
  have f1 : w.frozen? ⟨b, 2, none⟩ = false := Lib.frozen_of_heap hbk 2
  have H := Lib.hid hbk
  clear hbk
  go_enter Tryd.func60, Tryd.ntmps60
  go_wp2
  go_end0
  refine ⟨rfl, Lib.heap_setCell_same (i := 2) (Lib.heap_setCell_same (i := 1) H.out _) _, ⟨rfl, rfl, rfl, by rw [size_set', size_set']; exact Nat.le_refl _, fun k _ hkb => (Below.heap_setCell _ _ _ _ hkb).trans (Below.heap_setCell _ _ _ _ hkb)⟩⟩

end Go.Proofs.YtmjeokabbmigjaaDoor
