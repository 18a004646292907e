/-
  A comment of one block, converted: impl.docOf walked.
-/
import Derived.Test.YtmjeokabbmigjaaDoorTx
import Derived.Deep.RegionHeld3
import Derived.Deep.RegionLawGrows
namespace Go.Proofs.YtmjeokabbmigjaaDoor
open Go.RowKit

/-- The cells of a block of one list of spans. -/
def blkCells (kind : Int) (j : Nat) : Array Value := #[.int .i64 kind, .slice (some ⟨j, 0, none⟩) 1 1, .string ⟨#[]⟩, .slice none 0 0, .bool false, .bool false]

/-- A comment in block db: one block, of type T (a pointer), that holds a list of one plain text (its variable has type T'). -/
def OneDoc (w : World) (db : Nat) (T T' : TypeId) (s : ByteArray) : Prop := ∃ cb ccap ccs xb A cap, w.heap[db]? = some (.cells #[.slice (some ⟨cb, 0, none⟩) 1 ccap, .slice none 0 0] 111 (0, 0)) ∧
  w.heap[cb]? = some (.cells ccs 113 (0, 0)) ∧ ccs[0]? = some (.iface T (.pointer (some ⟨xb, 0, none⟩))) ∧ w.heap[xb]? = some (.cells #[.slice (some ⟨A, 0, none⟩) 1 cap] T' (0, 0)) ∧ OneText w A cap s

theorem own_one {B : Nat} {w : World} {v x : Value} {n : Nat} {xs : List Value} (h : w.ownsRow B 113 1 v n xs) (hn1 : n = 1) (hx1 : xs = [x]) : ∃ g cap cur, v = .slice (some ⟨g, 0, none⟩) 1 cap ∧ B ≤ g ∧ w.heap[g]? = some (.cells cur 113 (0, 0)) ∧ cur[0]? = some x := by
  subst hn1 hx1
  rcases h.2 with ⟨_, h0⟩ | ⟨g, cap, cur, hv, hb, hc, hn, hm, hs, ht⟩
  · omega
  · refine ⟨g, cap, cur, hv, hb, hc, ?_⟩
    have := congrArg (·[0]?) ht
    simpa using this

theorem after_append {w0 w1 w2 : World} {N : Nat} {o x y : Obj} (hb : Below w0.drew.heap.size w0.drew w1) (l0 : N < w0.heap.size) (H1 : w0.heap[N]? = some o) (hgrow : ((w1.alloc x).alloc y).grownBy w2 none) : w2.heap[N]? = some o := by
  have hs : w0.heap.size ≤ w1.heap.size := hb.size
  rw [hgrow.block N (by simp; omega) (by simp), Below.heap_alloc _ _ _ (by simp; omega), Below.heap_alloc _ _ _ (by omega), hb.block N l0]
  exact H1

theorem cell_one_at (w : World) (u : Value) (t : TypeId) (b : Nat) (hb : b = w.heap.size) : ∀ j v, [u][j]? = some v → (w.alloc (.cells #[u] t)).cell? ((⟨b, 0, none⟩ : Addr).add j) = some v := by
  subst hb
  exact cell_one_new w u t

theorem cell_alloc_old (w : World) (o : Obj) (p : Addr) (h : p.block < w.heap.size) : (w.alloc o).cell? p = w.cell? p :=
  World.cell?_of_block (w := w) (Below.heap_alloc w o p.block h)

theorem doc_end {w w0 w1 w2 : World} {A cap g ccap : Nat} {T T' : TypeId} {s : ByteArray} {ccs : Array Value} (HB0 : Below w.heap.size w w0) (sz0 : w0.heap.size = w.heap.size + 3) (hb : Below w0.drew.heap.size w0.drew w1) (hA : OneText w1 A cap s) (hAl : w0.drew.heap.size ≤ A)
    (hgrow : ((w1.alloc (.cells #[.slice (some ⟨A, 0, none⟩) 1 cap] T')).alloc (.cells #[.iface T (.pointer (some ⟨w1.heap.size, 0, none⟩))] 113)).grownBy w2 none) (hg1 : ((w1.alloc (.cells #[.slice (some ⟨A, 0, none⟩) 1 cap] T')).alloc (.cells #[.iface T (.pointer (some ⟨w1.heap.size, 0, none⟩))] 113)).heap.size ≤ g)
    (hg2 : w2.heap[g]? = some (.cells ccs 113 (0, 0))) (hg3 : ccs[0]? = some (.iface T (.pointer (some ⟨w1.heap.size, 0, none⟩)))) (hq : w2.heap[w.heap.size + 1]? = some (.cells #[.slice none 0 0, .slice none 0 0] 111 (0, 0))) :
    OneDoc (w2.setCell ⟨w.heap.size + 1, 0, none⟩ (.slice (some ⟨g, 0, none⟩) 1 ccap)) (w.heap.size + 1) T T' s ∧ Below w.heap.size w (w2.setCell ⟨w.heap.size + 1, 0, none⟩ (.slice (some ⟨g, 0, none⟩) 1 ccap)) := by
  have hs : w0.heap.size ≤ w1.heap.size := hb.size
  have hAl' : w0.heap.size ≤ A := hAl
  have hg1' : w1.heap.size + 2 ≤ g := by simpa using hg1
  have hset : ∀ k, k ≠ w.heap.size + 1 → (w2.setCell ⟨w.heap.size + 1, 0, none⟩ (.slice (some ⟨g, 0, none⟩) 1 ccap)).heap[k]? = w2.heap[k]? := fun k hk => Below.heap_setCell _ _ _ _ hk
  have hold : ∀ k, k < w1.heap.size → w2.heap[k]? = w1.heap[k]? := fun k hk => by
    rw [hgrow.block k (by simp; omega) (by simp), Below.heap_alloc _ _ _ (by simp; omega), Below.heap_alloc _ _ _ hk]
  have hnew : w2.heap[w1.heap.size]? = some (.cells #[.slice (some ⟨A, 0, none⟩) 1 cap] T' (0, 0)) := by
    rw [hgrow.block _ (by simp; omega) (by simp), Below.heap_alloc _ _ _ (by simp)]
    exact heap_alloc_new w1 _
  have hAlt := hA.lt
  refine ⟨⟨g, ccap, ccs, w1.heap.size, A, cap, ?_, ?_, hg3, ?_, ?_⟩, ?_⟩
  · exact Lib.heap_setCell_same (i := 0) hq _
  · rw [hset g (by omega)]; exact hg2
  · rw [hset _ (by omega)]; exact hnew
  · obtain ⟨cs, h1, h2, h3⟩ := hA
    exact ⟨cs, by rw [hset A (by omega), hold A hAlt]; exact h1, h2, h3⟩
  · refine (((HB0.trans ?_).trans (hb.mono (show w.heap.size ≤ w0.heap.size by omega))).alloc (by omega) _ |>.alloc (by simp; omega) _ |>.grown hgrow (by simp; omega) (by simp)).setCell (by simp) _
    exact ⟨rfl, rfl, rfl, Nat.le_refl _, fun _ _ => rfl⟩

theorem info113 : (Tryd.prog.info? 113).map (fun i => (i.zero, i.size, i.bytes)) = some (some .nilIface, 1, 16) := by kernel_rfl

set_option maxHeartbeats 2000000 in
set_option maxRecDepth 100000 in
theorem w41p (k j : Nat) (s : ByteArray) (w : World) (hk : w.heap[k]? = some (.cells (blkCells 1 j) 38 (0, 0))) (hj : w.heap[j]? = some (.cells (spanCells s) 61 (0, 0))) :
    Calls Tryd.prog 41 #[.agg #[.slice (some ⟨k, 0, none⟩) 1 1, .slice none 0 0]] w fun e w' => ∃ db, e = .returned (.pointer (some ⟨db, 0, none⟩)) ∧ OneDoc w' db 122 123 s ∧ Below w.heap.size w w' := by
  obtain ⟨i0, hi, hz0, hz1, hz2⟩ := info_parts info113
  have lk := Lib.lt_of_heap hk
  have lj := Lib.lt_of_heap hj
  have hc : ∀ i, w.cell? ⟨k, i, none⟩ = (blkCells 1 j)[i]? := fun i => Lib.cell_of_heap hk i
  have c0 : w.cell? ⟨k, 0, none⟩ = some (.int .i64 1) := hc 0
  have c1 : w.cell? ⟨k, 1, none⟩ = some (.slice (some ⟨j, 0, none⟩) 1 1) := hc 1
  have c2 : w.cell? ⟨k, 2, none⟩ = some (.string ⟨#[]⟩) := hc 2
  have c3 : w.cell? ⟨k, 3, none⟩ = some (.slice none 0 0) := hc 3
  have c4 : w.cell? ⟨k, 4, none⟩ = some (.bool false) := hc 4
  have c5 : w.cell? ⟨k, 5, none⟩ = some (.bool false) := hc 5
  have HJ := Lib.hid hj
  clear hc hk hj
  go_enter Tryd.func41, Tryd.ntmps41
  go_wp2_with fail
  refine wp_loop_rounds 2 ?_
  rw [rounds_succ]
  go_wp2_with fail
  obtain ⟨w0, hw0⟩ : ∃ w0, w0 = (((w.alloc (.cells #[.slice (some ⟨k, 0, none⟩) 1 1, .slice none 0 0] 42)).alloc (.cells #[.slice none 0 0, .slice none 0 0] 111)).alloc (.cells (blkCells 1 j) 38)) := ⟨_, rfl⟩
  have sz0 : w0.heap.size = w.heap.size + 3 := by rw [hw0]; simp
  have H1 : Hid (w0.heap[w.heap.size + 1]? = some (.cells #[.slice none 0 0, .slice none 0 0] 111 (0, 0))) := Lib.hid (by
    rw [hw0, Below.heap_alloc _ _ _ (by simp)]
    have := heap_alloc_new (w.alloc (.cells #[.slice (some ⟨k, 0, none⟩) 1 1, .slice none 0 0] 42)) (.cells #[.slice none 0 0, .slice none 0 0] 111)
    simpa using this)
  have H0 : Hid (w0.heap[w.heap.size]? = some (.cells #[.slice (some ⟨k, 0, none⟩) 1 1, .slice none 0 0] 42 (0, 0))) := Lib.hid (by
    rw [hw0, Below.heap_alloc _ _ _ (by simp; omega), Below.heap_alloc _ _ _ (by simp)]
    exact heap_alloc_new w _)
  have H2 : Hid (w0.heap[w.heap.size + 1 + 1]? = some (.cells (blkCells 1 j) 38 (0, 0))) := Lib.hid (by
    rw [hw0]
    have := heap_alloc_new ((w.alloc (.cells #[.slice (some ⟨k, 0, none⟩) 1 1, .slice none 0 0] 42)).alloc (.cells #[.slice none 0 0, .slice none 0 0] 111)) (.cells (blkCells 1 j) 38)
    simpa using this)
  have HB0 : Hid (Below w.heap.size w w0) := Lib.hid (by rw [hw0]; exact (((Below.refl _ w).alloc (Nat.le_refl _) _).alloc (by simp) _).alloc (by simp; omega) _)
  have HJ0 := Lib.hid ((HB0.out.block j lj).trans HJ.out)
  have g0 : w0.cell? ⟨w.heap.size + 1, 0, none⟩ = some (.slice none 0 0) := Lib.cell_of_heap H1.out 0
  have g1 : w0.cell? ⟨w.heap.size + 1 + 1, 1, none⟩ = some (.slice (some ⟨j, 0, none⟩) 1 1) := Lib.cell_of_heap H2.out 1
  unfold blkCells at hw0
  rw [← hw0]
  clear hw0
  have l0 : w.heap.size + 1 < w0.heap.size := by omega
  have l1 : w.heap.size + 1 + 1 < w0.heap.size := by omega
  have l00 : w.heap.size < w0.heap.size := by omega
  go_region_law (first
      | (go_simp
         go_at_call 36
         refine (w36 j s w0.drew HJ0.out).mono ?_
         rintro e w1 ⟨A, cap, rfl, hA, hAl, hb⟩
         have d0 : w1.cell? ⟨w.heap.size + 1, 0, none⟩ = some (.slice none 0 0) := (hb.cell (p := ⟨w.heap.size + 1, 0, none⟩) l0).trans g0
         have e0 : w.heap.size + 1 < w1.heap.size := Nat.lt_of_lt_of_le l0 hb.size
         have d1 : (w1.alloc (.cells #[.slice (some ⟨A, 0, none⟩) 1 cap] 123)).cell? ⟨w.heap.size + 1, 0, none⟩ = some (.slice none 0 0) := (cell_alloc_old w1 _ _ e0).trans d0
         have d2 : ((w1.alloc (.cells #[.slice (some ⟨A, 0, none⟩) 1 cap] 123)).alloc (.cells #[.iface 122 (.pointer (some ⟨w1.heap.size, 0, none⟩))] 113)).cell? ⟨w.heap.size + 1, 0, none⟩ = some (.slice none 0 0) := (cell_alloc_old _ _ _ (by simp; omega)).trans d1)
      | (refine step_append_grows rfl (.tmp 25) (.tmp 32) 108 rfl 113 i0 .nilIface 1 16 Tryd.underlying108 hi hz0 hz1 hz2 rfl (by decide) none 0 0 [] (by rfl) (fun _ => ⟨rfl, rfl⟩) rfl (by simp) ⟨w1.heap.size + 1, 0, none⟩ 1 1 [.iface 122 (.pointer (some ⟨w1.heap.size, 0, none⟩))] (by rfl) rfl (cell_one_at _ _ _ _ (by simp)) (by intro u hu; simp at hu; subst hu; rfl) (by decide) (by decide) (by decide) ?_
         intro v' w2 hown hgrow
         obtain ⟨g, ccap, ccs, rfl, hg1, hg2, hg3⟩ := own_one hown rfl rfl
         have q := after_append hb l0 H1.out hgrow
         have q0 : w2.cell? ⟨w.heap.size + 1, 0, none⟩ = some (.slice none 0 0) := Lib.cell_of_heap q 0
         have q1 : w2.frozen? ⟨w.heap.size + 1, 0, none⟩ = false := Lib.frozen_of_heap q 0
         have r0 : w2.cell? ⟨w.heap.size, 1, none⟩ = some (.slice none 0 0) := Lib.cell_of_heap (after_append hb l00 H0.out hgrow) 1
         have HQ := Lib.hid q
         have HG2 := Lib.hid hg2
         have HGR := Lib.hid hgrow
         clear hown q hg2 hgrow))
  all_goals
    have HD := Lib.hid (doc_end (ccap := ccap) HB0.out sz0 hb hA hAl HGR.out hg1 HG2.out hg3 HQ.out)
    clear hb hA hAl hg1 d0 d1 d2 e0 q0 q1 HGR HG2 HQ
    go_wp2_with fail
    rw [rounds_succ]
    go_wp2_with fail
    refine wp_loop_rounds 1 ?_
    rw [rounds_succ]
    go_wp2_with fail
    go_ret
    exact ⟨_, rfl, HD.out.1, HD.out.2⟩

set_option maxHeartbeats 2000000 in
set_option maxRecDepth 100000 in
theorem w41h (k j : Nat) (s : ByteArray) (w : World) (hk : w.heap[k]? = some (.cells (blkCells 2 j) 38 (0, 0))) (hj : w.heap[j]? = some (.cells (spanCells s) 61 (0, 0))) :
    Calls Tryd.prog 41 #[.agg #[.slice (some ⟨k, 0, none⟩) 1 1, .slice none 0 0]] w fun e w' => ∃ db, e = .returned (.pointer (some ⟨db, 0, none⟩)) ∧ OneDoc w' db 54 58 s ∧ Below w.heap.size w w' := by
  obtain ⟨i0, hi, hz0, hz1, hz2⟩ := info_parts info113
  have lk := Lib.lt_of_heap hk
  have lj := Lib.lt_of_heap hj
  have hc : ∀ i, w.cell? ⟨k, i, none⟩ = (blkCells 2 j)[i]? := fun i => Lib.cell_of_heap hk i
  have c0 : w.cell? ⟨k, 0, none⟩ = some (.int .i64 2) := hc 0
  have c1 : w.cell? ⟨k, 1, none⟩ = some (.slice (some ⟨j, 0, none⟩) 1 1) := hc 1
  have c2 : w.cell? ⟨k, 2, none⟩ = some (.string ⟨#[]⟩) := hc 2
  have c3 : w.cell? ⟨k, 3, none⟩ = some (.slice none 0 0) := hc 3
  have c4 : w.cell? ⟨k, 4, none⟩ = some (.bool false) := hc 4
  have c5 : w.cell? ⟨k, 5, none⟩ = some (.bool false) := hc 5
  have HJ := Lib.hid hj
  clear hc hk hj
  go_enter Tryd.func41, Tryd.ntmps41
  go_wp2_with fail
  refine wp_loop_rounds 2 ?_
  rw [rounds_succ]
  go_wp2_with fail
  obtain ⟨w0, hw0⟩ : ∃ w0, w0 = (((w.alloc (.cells #[.slice (some ⟨k, 0, none⟩) 1 1, .slice none 0 0] 42)).alloc (.cells #[.slice none 0 0, .slice none 0 0] 111)).alloc (.cells (blkCells 2 j) 38)) := ⟨_, rfl⟩
  have sz0 : w0.heap.size = w.heap.size + 3 := by rw [hw0]; simp
  have H1 : Hid (w0.heap[w.heap.size + 1]? = some (.cells #[.slice none 0 0, .slice none 0 0] 111 (0, 0))) := Lib.hid (by
    rw [hw0, Below.heap_alloc _ _ _ (by simp)]
    have := heap_alloc_new (w.alloc (.cells #[.slice (some ⟨k, 0, none⟩) 1 1, .slice none 0 0] 42)) (.cells #[.slice none 0 0, .slice none 0 0] 111)
    simpa using this)
  have H0 : Hid (w0.heap[w.heap.size]? = some (.cells #[.slice (some ⟨k, 0, none⟩) 1 1, .slice none 0 0] 42 (0, 0))) := Lib.hid (by
    rw [hw0, Below.heap_alloc _ _ _ (by simp; omega), Below.heap_alloc _ _ _ (by simp)]
    exact heap_alloc_new w _)
  have H2 : Hid (w0.heap[w.heap.size + 1 + 1]? = some (.cells (blkCells 2 j) 38 (0, 0))) := Lib.hid (by
    rw [hw0]
    have := heap_alloc_new ((w.alloc (.cells #[.slice (some ⟨k, 0, none⟩) 1 1, .slice none 0 0] 42)).alloc (.cells #[.slice none 0 0, .slice none 0 0] 111)) (.cells (blkCells 2 j) 38)
    simpa using this)
  have HB0 : Hid (Below w.heap.size w w0) := Lib.hid (by rw [hw0]; exact (((Below.refl _ w).alloc (Nat.le_refl _) _).alloc (by simp) _).alloc (by simp; omega) _)
  have HJ0 := Lib.hid ((HB0.out.block j lj).trans HJ.out)
  have g0 : w0.cell? ⟨w.heap.size + 1, 0, none⟩ = some (.slice none 0 0) := Lib.cell_of_heap H1.out 0
  have g1 : w0.cell? ⟨w.heap.size + 1 + 1, 1, none⟩ = some (.slice (some ⟨j, 0, none⟩) 1 1) := Lib.cell_of_heap H2.out 1
  unfold blkCells at hw0
  rw [← hw0]
  clear hw0
  have l0 : w.heap.size + 1 < w0.heap.size := by omega
  have l1 : w.heap.size + 1 + 1 < w0.heap.size := by omega
  have l00 : w.heap.size < w0.heap.size := by omega
  go_region_law (first
      | (go_simp
         go_at_call 36
         refine (w36 j s w0.drew HJ0.out).mono ?_
         rintro e w1 ⟨A, cap, rfl, hA, hAl, hb⟩
         have d0 : w1.cell? ⟨w.heap.size + 1, 0, none⟩ = some (.slice none 0 0) := (hb.cell (p := ⟨w.heap.size + 1, 0, none⟩) l0).trans g0
         have e0 : w.heap.size + 1 < w1.heap.size := Nat.lt_of_lt_of_le l0 hb.size
         have d1 : (w1.alloc (.cells #[.slice (some ⟨A, 0, none⟩) 1 cap] 58)).cell? ⟨w.heap.size + 1, 0, none⟩ = some (.slice none 0 0) := (cell_alloc_old w1 _ _ e0).trans d0
         have d2 : ((w1.alloc (.cells #[.slice (some ⟨A, 0, none⟩) 1 cap] 58)).alloc (.cells #[.iface 54 (.pointer (some ⟨w1.heap.size, 0, none⟩))] 113)).cell? ⟨w.heap.size + 1, 0, none⟩ = some (.slice none 0 0) := (cell_alloc_old _ _ _ (by simp; omega)).trans d1)
      | (refine step_append_grows rfl (.tmp 42) (.tmp 49) 108 rfl 113 i0 .nilIface 1 16 Tryd.underlying108 hi hz0 hz1 hz2 rfl (by decide) none 0 0 [] (by rfl) (fun _ => ⟨rfl, rfl⟩) rfl (by simp) ⟨w1.heap.size + 1, 0, none⟩ 1 1 [.iface 54 (.pointer (some ⟨w1.heap.size, 0, none⟩))] (by rfl) rfl (cell_one_at _ _ _ _ (by simp)) (by intro u hu; simp at hu; subst hu; rfl) (by decide) (by decide) (by decide) ?_
         intro v' w2 hown hgrow
         obtain ⟨g, ccap, ccs, rfl, hg1, hg2, hg3⟩ := own_one hown rfl rfl
         have q := after_append hb l0 H1.out hgrow
         have q0 : w2.cell? ⟨w.heap.size + 1, 0, none⟩ = some (.slice none 0 0) := Lib.cell_of_heap q 0
         have q1 : w2.frozen? ⟨w.heap.size + 1, 0, none⟩ = false := Lib.frozen_of_heap q 0
         have r0 : w2.cell? ⟨w.heap.size, 1, none⟩ = some (.slice none 0 0) := Lib.cell_of_heap (after_append hb l00 H0.out hgrow) 1
         have HQ := Lib.hid q
         have HG2 := Lib.hid hg2
         have HGR := Lib.hid hgrow
         clear hown q hg2 hgrow))
  all_goals
    have HD := Lib.hid (doc_end (ccap := ccap) HB0.out sz0 hb hA hAl HGR.out hg1 HG2.out hg3 HQ.out)
    clear hb hA hAl hg1 d0 d1 d2 e0 q0 q1 HGR HG2 HQ
    go_wp2_with fail
    rw [rounds_succ]
    go_wp2_with fail
    refine wp_loop_rounds 1 ?_
    rw [rounds_succ]
    go_wp2_with fail
    go_ret
    exact ⟨_, rfl, HD.out.1, HD.out.2⟩

end Go.Proofs.YtmjeokabbmigjaaDoor
