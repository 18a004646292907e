/-
  A comment of one block of code, converted: impl.docOf walked.
-/
import Derived.Test.YtmjeokabbmigjaaDoorDo
namespace Go.Proofs.YtmjeokabbmigjaaDoor
open Go.RowKit

/-- The cells of a block of code. -/
def codeCells (s : ByteArray) : Array Value := #[.int .i64 3, .slice none 0 0, .string s, .slice none 0 0, .bool false, .bool false]

/-- A comment in block db: one block of code. -/
def CodeDoc (w : World) (db : Nat) (s : ByteArray) : Prop := ∃ cb ccap ccs xb, w.heap[db]? = some (.cells #[.slice (some ⟨cb, 0, none⟩) 1 ccap, .slice none 0 0] 111 (0, 0)) ∧
  w.heap[cb]? = some (.cells ccs 113 (0, 0)) ∧ ccs[0]? = some (.iface 124 (.pointer (some ⟨xb, 0, none⟩))) ∧ w.heap[xb]? = some (.cells #[.string s] 126 (0, 0))

theorem after_append' {w0 w2 : World} {N : Nat} {o x y : Obj} (l0 : N < w0.heap.size) (H1 : w0.heap[N]? = some o) {X : World} (hgrow : X.grownBy w2 none) (hX : X.heap = ((w0.alloc x).alloc y).heap) : w2.heap[N]? = some o := by
  rw [hgrow.block N (by rw [hX]; simp; omega) (by simp), hX, Below.heap_alloc _ _ _ (by simp; omega), Below.heap_alloc _ _ _ (by exact l0)]
  exact H1

theorem doc_end' {w w0 w2 X : World} {g ccap : Nat} {s : ByteArray} {ccs : Array Value} (HB0 : Below w.heap.size w w0) (sz0 : w0.heap.size = w.heap.size + 3)
    (hgrow : X.grownBy w2 none) (hX : X.heap = ((w0.alloc (.cells #[.string s] 126)).alloc (.cells #[.iface 124 (.pointer (some ⟨w0.heap.size, 0, none⟩))] 113)).heap) (hXB : Below w0.heap.size w0 X) (hg1 : X.heap.size ≤ g)
    (hg2 : w2.heap[g]? = some (.cells ccs 113 (0, 0))) (hg3 : ccs[0]? = some (.iface 124 (.pointer (some ⟨w0.heap.size, 0, none⟩)))) (hq : w2.heap[w.heap.size + 1]? = some (.cells #[.slice none 0 0, .slice none 0 0] 111 (0, 0))) :
    CodeDoc (w2.setCell ⟨w.heap.size + 1, 0, none⟩ (.slice (some ⟨g, 0, none⟩) 1 ccap)) (w.heap.size + 1) s ∧ Below w.heap.size w (w2.setCell ⟨w.heap.size + 1, 0, none⟩ (.slice (some ⟨g, 0, none⟩) 1 ccap)) := by
  have hXs : X.heap.size = w0.heap.size + 2 := by rw [hX]; simp
  have hset : ∀ k, k ≠ w.heap.size + 1 → (w2.setCell ⟨w.heap.size + 1, 0, none⟩ (.slice (some ⟨g, 0, none⟩) 1 ccap)).heap[k]? = w2.heap[k]? := fun k hk => Below.heap_setCell _ _ _ _ hk
  have hnew : w2.heap[w0.heap.size]? = some (.cells #[.string s] 126 (0, 0)) := by
    rw [hgrow.block _ (by omega) (by simp), hX, Below.heap_alloc _ _ _ (by simp)]
    exact heap_alloc_new w0 _
  refine ⟨⟨g, ccap, ccs, w0.heap.size, ?_, ?_, hg3, ?_⟩, ?_⟩
  · exact Lib.heap_setCell_same (i := 0) hq _
  · rw [hset g (by omega)]; exact hg2
  · rw [hset _ (by omega)]; exact hnew
  · exact ((HB0.trans (hXB.mono (by omega))).grown hgrow (by omega) (by simp)).setCell (by simp) _

set_option maxHeartbeats 2000000 in
set_option maxRecDepth 100000 in
theorem w41c (k : Nat) (s : ByteArray) (w : World) (hk : w.heap[k]? = some (.cells (codeCells s) 38 (0, 0))) :
    Calls Tryd.prog 41 #[.agg #[.slice (some ⟨k, 0, none⟩) 1 1, .slice none 0 0]] w fun e w' => ∃ db, e = .returned (.pointer (some ⟨db, 0, none⟩)) ∧ CodeDoc w' db s ∧ Below w.heap.size w w' := by
  obtain ⟨i0, hi, hz0, hz1, hz2⟩ := info_parts info113
  have lk := Lib.lt_of_heap hk
  have hc : ∀ i, w.cell? ⟨k, i, none⟩ = (codeCells s)[i]? := fun i => Lib.cell_of_heap hk i
  have c0 : w.cell? ⟨k, 0, none⟩ = some (.int .i64 3) := hc 0
  have c1 : w.cell? ⟨k, 1, none⟩ = some (.slice none 0 0) := hc 1
  have c2 : w.cell? ⟨k, 2, none⟩ = some (.string s) := hc 2
  have c3 : w.cell? ⟨k, 3, none⟩ = some (.slice none 0 0) := hc 3
  have c4 : w.cell? ⟨k, 4, none⟩ = some (.bool false) := hc 4
  have c5 : w.cell? ⟨k, 5, none⟩ = some (.bool false) := hc 5
  clear hc hk
  go_enter Tryd.func41, Tryd.ntmps41
  go_wp2_with fail
  refine wp_loop_rounds 2 ?_
  rw [rounds_succ]
  go_wp2_with fail
  obtain ⟨w0, hw0⟩ : ∃ w0, w0 = (((w.alloc (.cells #[.slice (some ⟨k, 0, none⟩) 1 1, .slice none 0 0] 42)).alloc (.cells #[.slice none 0 0, .slice none 0 0] 111)).alloc (.cells (codeCells s) 38)) := ⟨_, rfl⟩
  have sz0 : w0.heap.size = w.heap.size + 3 := by rw [hw0]; simp
  have H1 : Hid (w0.heap[w.heap.size + 1]? = some (.cells #[.slice none 0 0, .slice none 0 0] 111 (0, 0))) := Lib.hid (by
    rw [hw0, Below.heap_alloc _ _ _ (by simp)]
    have := heap_alloc_new (w.alloc (.cells #[.slice (some ⟨k, 0, none⟩) 1 1, .slice none 0 0] 42)) (.cells #[.slice none 0 0, .slice none 0 0] 111)
    simpa using this)
  have H0 : Hid (w0.heap[w.heap.size]? = some (.cells #[.slice (some ⟨k, 0, none⟩) 1 1, .slice none 0 0] 42 (0, 0))) := Lib.hid (by
    rw [hw0, Below.heap_alloc _ _ _ (by simp; omega), Below.heap_alloc _ _ _ (by simp)]
    exact heap_alloc_new w _)
  have H2 : Hid (w0.heap[w.heap.size + 1 + 1]? = some (.cells (codeCells s) 38 (0, 0))) := Lib.hid (by
    rw [hw0]
    have := heap_alloc_new ((w.alloc (.cells #[.slice (some ⟨k, 0, none⟩) 1 1, .slice none 0 0] 42)).alloc (.cells #[.slice none 0 0, .slice none 0 0] 111)) (.cells (codeCells s) 38)
    simpa using this)
  have HB0 : Hid (Below w.heap.size w w0) := Lib.hid (by rw [hw0]; exact (((Below.refl _ w).alloc (Nat.le_refl _) _).alloc (by simp) _).alloc (by simp; omega) _)
  have g0 : w0.cell? ⟨w.heap.size + 1, 0, none⟩ = some (.slice none 0 0) := Lib.cell_of_heap H1.out 0
  have g1 : w0.cell? ⟨w.heap.size + 1 + 1, 2, none⟩ = some (.string s) := Lib.cell_of_heap H2.out 2
  unfold codeCells at hw0
  rw [← hw0]
  clear hw0
  have l0 : w.heap.size + 1 < w0.heap.size := by omega
  have l1 : w.heap.size + 1 + 1 < w0.heap.size := by omega
  have l00 : w.heap.size < w0.heap.size := by omega
  have d1 : (w0.alloc (.cells #[.string s] 126)).cell? ⟨w.heap.size + 1, 0, none⟩ = some (.slice none 0 0) := (cell_alloc_old w0 _ _ l0).trans g0
  have d2 : ((w0.alloc (.cells #[.string s] 126)).alloc (.cells #[.iface 124 (.pointer (some ⟨w0.heap.size, 0, none⟩))] 113)).cell? ⟨w.heap.size + 1, 0, none⟩ = some (.slice none 0 0) := (cell_alloc_old _ _ _ (by simp; omega)).trans d1
  have HSZ := Lib.hid sz0
  have HXB : Hid (Below w0.heap.size w0 ((w0.alloc (.cells #[.string s] 126)).alloc (.cells #[.iface 124 (.pointer (some ⟨w0.heap.size, 0, none⟩))] 113))) := Lib.hid (((Below.refl _ w0).alloc (Nat.le_refl _) _).alloc (by simp) _)
  clear sz0
  go_region_law (first
      | (refine step_append_grows rfl (.tmp 59) (.tmp 65) 108 rfl 113 i0 .nilIface 1 16 Tryd.underlying108 hi hz0 hz1 hz2 rfl (by decide) none 0 0 [] (by rfl) (fun _ => ⟨rfl, rfl⟩) rfl (by simp) ⟨w0.heap.size + 1, 0, none⟩ 1 1 [.iface 124 (.pointer (some ⟨w0.heap.size, 0, none⟩))] (by rfl) rfl (cell_one_at (w0.alloc (.cells #[.string s] 126)) (.iface 124 (.pointer (some ⟨w0.heap.size, 0, none⟩))) 113 _ (by simp)) (by intro u hu; simp at hu; subst hu; rfl) (by decide) (by decide) (by decide) ?_
         intro v' w2 hown hgrow
         obtain ⟨g, ccap, ccs, rfl, hg1, hg2, hg3⟩ := own_one hown rfl rfl
         have q := after_append' l0 H1.out (x := .cells #[.string s] 126) (y := .cells #[.iface 124 (.pointer (some ⟨w0.heap.size, 0, none⟩))] 113) hgrow rfl
         have q0 : w2.cell? ⟨w.heap.size + 1, 0, none⟩ = some (.slice none 0 0) := Lib.cell_of_heap q 0
         have q1 : w2.frozen? ⟨w.heap.size + 1, 0, none⟩ = false := Lib.frozen_of_heap q 0
         have r0 : w2.cell? ⟨w.heap.size, 1, none⟩ = some (.slice none 0 0) := Lib.cell_of_heap (after_append' l00 H0.out (x := .cells #[.string s] 126) (y := .cells #[.iface 124 (.pointer (some ⟨w0.heap.size, 0, none⟩))] 113) hgrow rfl) 1
         have HQ := Lib.hid q
         have HG2 := Lib.hid hg2
         have HGR := Lib.hid hgrow
         clear hown q hg2 hgrow))
  all_goals
    have HD := Lib.hid (doc_end' (ccap := ccap) HB0.out HSZ.out HGR.out rfl (by exact ⟨rfl, rfl, rfl, HXB.out.size, HXB.out.block⟩) hg1 HG2.out hg3 HQ.out)
    clear hg1 d1 d2 q0 q1 HGR HG2 HQ
    go_wp2_with fail
    rw [rounds_succ]
    go_wp2_with fail
    refine wp_loop_rounds 1 ?_
    rw [rounds_succ]
    go_wp2_with fail
    go_ret
    exact ⟨_, rfl, HD.out.1, HD.out.2⟩

end Go.Proofs.YtmjeokabbmigjaaDoor
