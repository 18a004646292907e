/-
  The law FnHTMLHead, walked.
-/
import Derived.Test.YtmjeokabbmigjaaDoorHp
import Derived.Test.YtmjeokabbmigjaaDoorWd
import Derived.Test.YtmjeokabbmigjaaDoorPw
import Derived.Test.YtmjeokabbmigjaaDoorLkL
namespace Go.Proofs.YtmjeokabbmigjaaDoor
open Go.RowKit

/-- What is asked of a heading's text. -/
structure HeadOk (s : ByteArray) : Prop where
  ne : s.data.toList ≠ []
  sz : s.size ≤ 1000000
  asc : ∀ k (h : k < s.size), (s[k]'h).toNat < 128
  trim : Lib.trimSpaceD s.data.toList = s.data.toList

theorem headOk_of {s : ByteArray} (h : wordsB s.data.toList = true) : HeadOk s := by
  refine ⟨words_ne h, ?_, ?_, words_trim h⟩
  · have := words_len h; rw [← Lib.size_eq] at this; omega
  · intro k hk
    have hk2 : k < s.data.toList.length := by rw [← Lib.size_eq]; exact hk
    rcases words_mem h (s.data.toList[k]) (List.getElem_mem hk2) with h1 | h1
    · exact (isLow_sp h1).2
    · have : s[k] = 32 := h1
      rw [this]; decide

theorem words_plain {s : ByteArray} (h : wordsB s.data.toList = true) : escL htmlE s.data.toList = s.data.toList := by
  apply escL_id
  intro c hc
  rcases words_mem h c hc with h1 | rfl
  · have h2 := isLow_spec h1
    unfold htmlE
    repeat' split
    all_goals first | rfl | (rename_i e; subst e; exact absurd h2.1 (by decide))
  · rfl

theorem head27 (n : Nat) (wd : Int) (p c u : ByteArray) (k j : Nat) (s : ByteArray) (w : World) (hn : n ≤ 6) (ht : Tabs w) (ho : HeadOk s) (hpl : escL htmlE s.data.toList = s.data.toList) (hk : w.heap[k]? = some (.cells (blkCells 2 j) 38 (0, 0))) (hj : w.heap[j]? = some (.cells (spanCells s) 61 (0, 0))) :
    Calls Tryd.prog 27 #[.agg (lookCells n wd p c u), .agg #[.slice (some ⟨k, 0, none⟩) 1 1, .slice none 0 0]] w fun e w' =>
      e = .returned (.string ⟨(headL [UInt8.ofNat (48 + levB n)] (idL s.data.toList) s.data.toList).toArray⟩) ∧ Below w.heap.size w w' := by
  refine w27 (T := 54) (T' := 58) (s := s) n wd p c u k w (by simp [headL]) ?_ ?_
  · intro w' hb
    exact w41h k j s w' ((hb.block k (Lib.lt_of_heap hk)).trans hk) ((hb.block j (Lib.lt_of_heap hj)).trans hj)
  · intro w' pb db hb hp hd
    obtain ⟨cb, ccap, ccs, xb, A, cap, h1, h2, h3, h4, h5⟩ := hd
    refine w49 pb db cb ccap ccs _ _ h1 h2 h3 ?_
    intro w1 g1 g2 g3 g4
    have l1 := Lib.lt_of_heap h4
    have l2 := Lib.lt_of_heap hp
    have l3 := h5.lt
    refine w74h w'.heap.size pb xb A cap n s g2 g1 (prCells n wd p c u) ((g3.block pb l2).trans hp) rfl rfl hn ((g3.block xb l1).trans h4) (h5.carry fun k hk => g3.block k hk) ?_ (by omega) (by omega) (by omega) (by omega) g4 ho.ne ho.sz ho.asc ho.trim hpl
    exact ⟨w, ht, by have := hb.size; omega, hb.trans (g3.mono hb.size)⟩

/-- A Look's texts are not too long. -/
def fitsB (p c u : ByteArray) : Bool := decide (p.size ≤ 2147483647) && (decide (c.size ≤ 2147483647) && decide (u.size ≤ 2147483647))

set_option maxHeartbeats 1000000 in
set_option maxRecDepth 100000 in
theorem w7_unfit (n wd : Int) (p c u s : ByteArray) (w : World) (h : fitsB p c u = false) : Calls Tryd.prog 7 #[.agg (lookCells n wd p c u), .string s] w (LawPost w) := by
  have c16 := fun w => w16 n wd p c u w
  unfold fitsB at h
  rw [h] at c16
  have C := Lib.hid c16
  clear c16 h
  unfold lookCells at C ⊢
  go_enter Tryd.func7, Tryd.ntmps7
  go_wp2_with fail
  refine (C.out _).mono ?_
  rintro e w1 ⟨rfl, rfl⟩
  go_wp2_with fail
  go_ret
  exact ⟨rfl, ((Below.refl _ w).alloc (Nat.le_refl _) _).alloc (by simp) _⟩

set_option maxHeartbeats 1000000 in
set_option maxRecDepth 100000 in
theorem w7_big (n wd : Int) (p c u s : ByteArray) (w : World) (h : fitsB p c u = true) (hs : 2147483647 < s.size) : Calls Tryd.prog 7 #[.agg (lookCells n wd p c u), .string s] w (LawPost w) := by
  have c16 := fun w => w16 n wd p c u w
  unfold fitsB at h
  rw [h] at c16
  have C := Lib.hid c16
  clear c16 h
  unfold lookCells at C ⊢
  go_enter Tryd.func7, Tryd.ntmps7
  go_wp2_with fail
  refine (C.out _).mono ?_
  rintro e w1 ⟨rfl, rfl⟩
  go_wp2_with fail
  go_ret
  exact ⟨rfl, ((Below.refl _ w).alloc (Nat.le_refl _) _).alloc (by simp) _⟩

set_option maxHeartbeats 1000000 in
set_option maxRecDepth 100000 in
theorem w7_nowords (n wd : Int) (p c u s : ByteArray) (w : World) (h : fitsB p c u = true) (hs : s.size ≤ 2147483647) (hw : wordsB s.data.toList = false) : Calls Tryd.prog 7 #[.agg (lookCells n wd p c u), .string s] w (LawPost w) := by
  have c16 := fun w => w16 n wd p c u w
  unfold fitsB at h
  rw [h] at c16
  have c26 := fun w => w26 s w hs
  rw [hw] at c26
  have C := Lib.hid c16
  have C26 := Lib.hid c26
  clear c16 h c26 hw
  unfold lookCells at C ⊢
  go_enter Tryd.func7, Tryd.ntmps7
  go_wp2_with fail
  refine (C.out _).mono ?_
  rintro e w1 ⟨rfl, rfl⟩
  go_wp2_with fail
  refine (C26.out _).mono ?_
  rintro e w2 ⟨rfl, hb⟩
  have HB : Hid (Below w.heap.size w w2) := Lib.hid ((((Below.refl _ w).alloc (Nat.le_refl _) _).alloc (by simp) _).trans (hb.mono (by simp; omega)))
  clear hb
  go_wp2_with fail
  go_ret
  exact ⟨rfl, HB.out⟩

set_option maxHeartbeats 1000000 in
set_option maxRecDepth 100000 in
theorem w7_neg (n wd : Int) (p c u s : ByteArray) (w : World) (h : fitsB p c u = true) (hs : s.size ≤ 2147483647) (hw : wordsB s.data.toList = true) (hn : n < 0) : Calls Tryd.prog 7 #[.agg (lookCells n wd p c u), .string s] w (LawPost w) := by
  have c16 := fun w => w16 n wd p c u w
  unfold fitsB at h
  rw [h] at c16
  have c26 := fun w => w26 s w hs
  rw [hw] at c26
  have C := Lib.hid c16
  have C26 := Lib.hid c26
  clear c16 h c26 hw
  unfold lookCells at C ⊢
  go_enter Tryd.func7, Tryd.ntmps7
  go_wp2_with fail
  refine (C.out _).mono ?_
  rintro e w1 ⟨rfl, rfl⟩
  go_wp2_with fail
  refine (C26.out _).mono ?_
  rintro e w2 ⟨rfl, hb⟩
  have HB : Hid (Below w.heap.size w w2) := Lib.hid ((((Below.refl _ w).alloc (Nat.le_refl _) _).alloc (by simp) _).trans (hb.mono (by simp; omega)))
  have l0 : w.heap.size < w2.heap.size := by have := hb.size; simp at this; omega
  have H0 : Hid (w2.heap[w.heap.size]? = some (.cells #[.int .i64 n, .string p, .string c, .int .i64 wd, .string u] 31 (0, 0))) := Lib.hid (by
    rw [hb.block _ (by simp; omega), Below.heap_alloc _ _ _ (by simp)]
    exact heap_alloc_new w _)
  have q0 : w2.cell? ⟨w.heap.size, 0, none⟩ = some (.int .i64 n) := Lib.cell_of_heap H0.out 0
  clear hb
  go_wp2_with fail
  go_ret
  exact ⟨rfl, HB.out⟩

set_option maxHeartbeats 1000000 in
set_option maxRecDepth 100000 in
theorem w7_great (n wd : Int) (p c u s : ByteArray) (w : World) (h : fitsB p c u = true) (hs : s.size ≤ 2147483647) (hw : wordsB s.data.toList = true) (h0 : ¬ n < 0) (hn : 6 < n) : Calls Tryd.prog 7 #[.agg (lookCells n wd p c u), .string s] w (LawPost w) := by
  have c16 := fun w => w16 n wd p c u w
  unfold fitsB at h
  rw [h] at c16
  have c26 := fun w => w26 s w hs
  rw [hw] at c26
  have C := Lib.hid c16
  have C26 := Lib.hid c26
  clear c16 h c26 hw
  unfold lookCells at C ⊢
  go_enter Tryd.func7, Tryd.ntmps7
  go_wp2_with fail
  refine (C.out _).mono ?_
  rintro e w1 ⟨rfl, rfl⟩
  go_wp2_with fail
  refine (C26.out _).mono ?_
  rintro e w2 ⟨rfl, hb⟩
  have HB : Hid (Below w.heap.size w w2) := Lib.hid ((((Below.refl _ w).alloc (Nat.le_refl _) _).alloc (by simp) _).trans (hb.mono (by simp; omega)))
  have l0 : w.heap.size < w2.heap.size := by have := hb.size; simp at this; omega
  have H0 : Hid (w2.heap[w.heap.size]? = some (.cells #[.int .i64 n, .string p, .string c, .int .i64 wd, .string u] 31 (0, 0))) := Lib.hid (by
    rw [hb.block _ (by simp; omega), Below.heap_alloc _ _ _ (by simp)]
    exact heap_alloc_new w _)
  have q0 : w2.cell? ⟨w.heap.size, 0, none⟩ = some (.int .i64 n) := Lib.cell_of_heap H0.out 0
  clear hb
  go_wp2_with fail
  go_ret
  exact ⟨rfl, HB.out⟩

end Go.Proofs.YtmjeokabbmigjaaDoor
