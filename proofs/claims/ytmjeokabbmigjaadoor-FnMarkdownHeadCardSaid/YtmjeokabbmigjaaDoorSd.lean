/-
  The law FnMarkdownHead, walked.
-/
import Derived.Test.YtmjeokabbmigjaaDoorSb
import Derived.Test.YtmjeokabbmigjaaDoorSc
import Derived.Test.YtmjeokabbmigjaaDoorHx
namespace Go.Proofs.YtmjeokabbmigjaaDoor
open Go.RowKit

theorem head30 (n : Nat) (wd : Int) (p c u : ByteArray) (k j : Nat) (s : ByteArray) (w : World) (hn : n ≤ 6) (ht : Tabs w) (htb : Bsp w) (ho : HeadOk s) (hm : MdOk s) (hk : w.heap[k]? = some (.cells (blkCells 2 j) 38 (0, 0))) (hj : w.heap[j]? = some (.cells (spanCells s) 61 (0, 0))) :
    Calls Tryd.prog 30 #[.agg (lookCells n wd p c u), .agg #[.slice (some ⟨k, 0, none⟩) 1 1, .slice none 0 0]] w fun e w' =>
      e = .returned (.string ⟨(mdL (hpL n) (idL s.data.toList) s.data.toList).toArray⟩) ∧ Below w.heap.size w w' := by
  refine w30 (D := fun w' db => OneDoc w' db 54 58 s) n wd p c u k w (by simp [mdL]) ?_ ?_
  · intro w' hb
    exact w41h k j s w' ((hb.block k (Lib.lt_of_heap hk)).trans hk) ((hb.block j (Lib.lt_of_heap hj)).trans hj)
  · intro w' pb db hb hp hd
    obtain ⟨cb, ccap, ccs, xb, A, cap, h1, h2, h3, h4, h5⟩ := hd
    refine w51 n hn pb _ db cb ccap ccs _ _ hp rfl h1 h2 h3 ?_
    intro b w1 h_ hbge hh g1 g2 g3 g4
    have l1 := Lib.lt_of_heap h4
    have l2 := Lib.lt_of_heap hp
    have l3 := h5.lt
    have hle : h_.size ≤ 100 := by
      rw [Lib.size_eq, hh]
      simp only [hpL, List.length_append, repeatL_one, List.length_cons, List.length_nil]
      unfold levB; split <;> omega
    have := w77 b pb xb A cap h_ s 0 g1 g2 (prCells n wd p c u) ((g3.block pb l2).trans hp) rfl ((g3.block xb l1).trans h4) (h5.carry fun k hk => g3.block k hk) ⟨w, ht, by have := hb.size; omega, hb.trans (g3.mono hb.size)⟩ ⟨w, htb, by have := hb.size; omega, hb.trans (g3.mono hb.size)⟩
      (Nat.lt_succ_self b) g4 (by omega) (by omega) (by omega) hm ho.ne ho.trim hle
    rw [hh] at this
    exact this

theorem hp_md (n : Nat) (s O R : ByteArray) (hO : (⟨(mdL (hpL n) (idL s.data.toList) s.data.toList).toArray⟩ : ByteArray) = O) (hR : (⟨(Lib.repeatL (⟨#[35]⟩ : ByteArray).data.toList (levB n)).toArray⟩ : ByteArray) = R) :
    Lib.hasPrefix O.data.toList ((R ++ { data := #[32] } ++ s : ByteArray)).data.toList = true := by
  subst hO hR
  unfold Lib.hasPrefix
  rw [List.isPrefixOf_iff_prefix]
  refine ⟨[32, 123, 35] ++ idL s.data.toList ++ [125] ++ [10], ?_⟩
  simp [mdL, hpL]

theorem has_md (n : Nat) (s O I : ByteArray) (hO : (⟨(mdL (hpL n) (idL s.data.toList) s.data.toList).toArray⟩ : ByteArray) = O) (hI : (⟨(idL s.data.toList).toArray⟩ : ByteArray) = I) : ∃ k, StandsAt O I k := by
  subst hO hI
  refine ⟨_, stands_mid (pre := hpL n ++ s.data.toList ++ [32, 123, 35]) (post := [125] ++ [10]) ?_⟩
  simp [mdL]

set_option maxHeartbeats 1000000 in
set_option maxRecDepth 100000 in
theorem w9_unfit (n wd : Int) (p c u s : ByteArray) (w : World) (h : fitsB p c u = false) : Calls Tryd.prog 9 #[.agg (lookCells n wd p c u), .string s] w (LawPost w) := by
  have c16 := fun w => w16 n wd p c u w
  unfold fitsB at h
  rw [h] at c16
  have C := Lib.hid c16
  clear c16 h
  unfold lookCells at C ⊢
  go_enter Tryd.func9, Tryd.ntmps9
  go_wp2_with fail
  refine (C.out _).mono ?_
  rintro e w1 ⟨rfl, rfl⟩
  go_wp2_with fail
  go_ret
  exact ⟨rfl, ((Below.refl _ w).alloc (Nat.le_refl _) _).alloc (by simp) _⟩

set_option maxHeartbeats 1000000 in
set_option maxRecDepth 100000 in
theorem w9_big (n wd : Int) (p c u s : ByteArray) (w : World) (h : fitsB p c u = true) (hs : 2147483647 < s.size) : Calls Tryd.prog 9 #[.agg (lookCells n wd p c u), .string s] w (LawPost w) := by
  have c16 := fun w => w16 n wd p c u w
  unfold fitsB at h
  rw [h] at c16
  have C := Lib.hid c16
  clear c16 h
  unfold lookCells at C ⊢
  go_enter Tryd.func9, Tryd.ntmps9
  go_wp2_with fail
  refine (C.out _).mono ?_
  rintro e w1 ⟨rfl, rfl⟩
  go_wp2_with fail
  go_ret
  exact ⟨rfl, ((Below.refl _ w).alloc (Nat.le_refl _) _).alloc (by simp) _⟩

set_option maxHeartbeats 1000000 in
set_option maxRecDepth 100000 in
theorem w9_nowords (n wd : Int) (p c u s : ByteArray) (w : World) (h : fitsB p c u = true) (hs : s.size ≤ 2147483647) (hw : wordsB s.data.toList = false) : Calls Tryd.prog 9 #[.agg (lookCells n wd p c u), .string s] w (LawPost w) := by
  have c16 := fun w => w16 n wd p c u w
  unfold fitsB at h
  rw [h] at c16
  have c26 := fun w => w26 s w hs
  rw [hw] at c26
  have C := Lib.hid c16
  have C26 := Lib.hid c26
  clear c16 h c26 hw
  unfold lookCells at C ⊢
  go_enter Tryd.func9, Tryd.ntmps9
  go_wp2_with fail
  refine (C.out _).mono ?_
  rintro e w1 ⟨rfl, rfl⟩
  go_wp2_with fail
  refine (C26.out _).mono ?_
  rintro e w2 ⟨rfl, hb⟩
  have HB : Hid (Below w.heap.size w w2) := Lib.hid ((((Below.refl _ w).alloc (Nat.le_refl _) _).alloc (by simp) _).trans (hb.mono (by simp; omega)))
  clear hb
  go_wp2_with fail
  go_ret
  exact ⟨rfl, HB.out⟩

set_option maxHeartbeats 1000000 in
set_option maxRecDepth 100000 in
theorem w9_neg (n wd : Int) (p c u s : ByteArray) (w : World) (h : fitsB p c u = true) (hs : s.size ≤ 2147483647) (hw : wordsB s.data.toList = true) (hn : n < 0) : Calls Tryd.prog 9 #[.agg (lookCells n wd p c u), .string s] w (LawPost w) := by
  have c16 := fun w => w16 n wd p c u w
  unfold fitsB at h
  rw [h] at c16
  have c26 := fun w => w26 s w hs
  rw [hw] at c26
  have C := Lib.hid c16
  have C26 := Lib.hid c26
  clear c16 h c26 hw
  unfold lookCells at C ⊢
  go_enter Tryd.func9, Tryd.ntmps9
  go_wp2_with fail
  refine (C.out _).mono ?_
  rintro e w1 ⟨rfl, rfl⟩
  go_wp2_with fail
  refine (C26.out _).mono ?_
  rintro e w2 ⟨rfl, hb⟩
  have HB : Hid (Below w.heap.size w w2) := Lib.hid ((((Below.refl _ w).alloc (Nat.le_refl _) _).alloc (by simp) _).trans (hb.mono (by simp; omega)))
  have l0 : w.heap.size < w2.heap.size := by have := hb.size; simp at this; omega
  have H0 : Hid (w2.heap[w.heap.size]? = some (.cells #[.int .i64 n, .string p, .string c, .int .i64 wd, .string u] 31 (0, 0))) := Lib.hid (by
    rw [hb.block _ (by simp; omega), Below.heap_alloc _ _ _ (by simp)]
    exact heap_alloc_new w _)
  have q0 : w2.cell? ⟨w.heap.size, 0, none⟩ = some (.int .i64 n) := Lib.cell_of_heap H0.out 0
  clear hb
  go_wp2_with fail
  go_ret
  exact ⟨rfl, HB.out⟩

set_option maxHeartbeats 1000000 in
set_option maxRecDepth 100000 in
theorem w9_great (n wd : Int) (p c u s : ByteArray) (w : World) (h : fitsB p c u = true) (hs : s.size ≤ 2147483647) (hw : wordsB s.data.toList = true) (h0 : ¬ n < 0) (hn : 6 < n) : Calls Tryd.prog 9 #[.agg (lookCells n wd p c u), .string s] w (LawPost w) := by
  have c16 := fun w => w16 n wd p c u w
  unfold fitsB at h
  rw [h] at c16
  have c26 := fun w => w26 s w hs
  rw [hw] at c26
  have C := Lib.hid c16
  have C26 := Lib.hid c26
  clear c16 h c26 hw
  unfold lookCells at C ⊢
  go_enter Tryd.func9, Tryd.ntmps9
  go_wp2_with fail
  refine (C.out _).mono ?_
  rintro e w1 ⟨rfl, rfl⟩
  go_wp2_with fail
  refine (C26.out _).mono ?_
  rintro e w2 ⟨rfl, hb⟩
  have HB : Hid (Below w.heap.size w w2) := Lib.hid ((((Below.refl _ w).alloc (Nat.le_refl _) _).alloc (by simp) _).trans (hb.mono (by simp; omega)))
  have l0 : w.heap.size < w2.heap.size := by have := hb.size; simp at this; omega
  have H0 : Hid (w2.heap[w.heap.size]? = some (.cells #[.int .i64 n, .string p, .string c, .int .i64 wd, .string u] 31 (0, 0))) := Lib.hid (by
    rw [hb.block _ (by simp; omega), Below.heap_alloc _ _ _ (by simp)]
    exact heap_alloc_new w _)
  have q0 : w2.cell? ⟨w.heap.size, 0, none⟩ = some (.int .i64 n) := Lib.cell_of_heap H0.out 0
  clear hb
  go_wp2_with fail
  go_ret
  exact ⟨rfl, HB.out⟩

set_option maxHeartbeats 4000000 in
set_option maxRecDepth 100000 in
theorem w9_main (n : Nat) (wd : Int) (p c u s : ByteArray) (w : World) (ht : Tabs w) (htb : Bsp w) (h : fitsB p c u = true) (hs : s.size ≤ 2147483647) (hw : wordsB s.data.toList = true) (hn6 : n ≤ 6) : Calls Tryd.prog 9 #[.agg (lookCells n wd p c u), .string s] w (LawPost w) := by
  have c16 := fun w => w16 n wd p c u w
  unfold fitsB at h
  rw [h] at c16
  have c26 := fun w => w26 s w hs
  rw [hw] at c26
  have HO := Lib.hid (headOk_of hw)
  have HM := Lib.hid (mdOk_of hw)
  have HTB := Lib.hid htb
  have hsz : s.size ≤ 270 := by have := words_len hw; rwa [← Lib.size_eq] at this
  have C := Lib.hid c16
  have C26 := Lib.hid c26
  have HT := Lib.hid ht
  clear c16 h c26 hw ht htb
  have hn0 : ¬ ((n : Int) < 0) := by omega
  have hn66 : ¬ (6 < (n : Int)) := by omega
  unfold lookCells at C ⊢
  go_enter Tryd.func9, Tryd.ntmps9
  go_wp2_with fail
  refine (C.out _).mono ?_
  rintro e w1 ⟨rfl, rfl⟩
  go_wp2_with fail
  refine (C26.out _).mono ?_
  rintro e w2 ⟨rfl, hb⟩
  have HB : Hid (Below w.heap.size w w2) := Lib.hid ((((Below.refl _ w).alloc (Nat.le_refl _) _).alloc (by simp) _).trans (hb.mono (by simp; omega)))
  have l0 : w.heap.size < w2.heap.size := by have := hb.size; simp at this; omega
  have H0 : Hid (w2.heap[w.heap.size]? = some (.cells (lookCells n wd p c u) 31 (0, 0))) := Lib.hid (by
    rw [hb.block _ (by simp; omega), Below.heap_alloc _ _ _ (by simp)]
    exact heap_alloc_new w _)
  have cellL : ∀ i, w2.cell? ⟨w.heap.size, i, none⟩ = (lookCells n wd p c u)[i]? := fun i => Lib.cell_of_heap H0.out i
  have a0 : w2.cell? ⟨w.heap.size, 0, none⟩ = some (.int .i64 n) := cellL 0
  have a1 : w2.cell? ⟨w.heap.size, 1, none⟩ = some (.string p) := cellL 1
  have a2 : w2.cell? ⟨w.heap.size, 2, none⟩ = some (.string c) := cellL 2
  have a3 : w2.cell? ⟨w.heap.size, 3, none⟩ = some (.int .i64 wd) := cellL 3
  have a4 : w2.cell? ⟨w.heap.size, 4, none⟩ = some (.string u) := cellL 4
  clear hb cellL
  go_wp2_with fail
  obtain ⟨O, hO⟩ : ∃ O : ByteArray, (⟨(mdL (hpL n) (idL s.data.toList) s.data.toList).toArray⟩ : ByteArray) = O := ⟨_, rfl⟩
  have hk2 : ((w2.drew.alloc (.cells (spanCells s) 61)).alloc (.cells (blkCells 2 w2.heap.size) 38)).heap[w2.heap.size + 1]? = some (.cells (blkCells 2 w2.heap.size) 38 (0, 0)) := by
    have := heap_alloc_new (w2.drew.alloc (.cells (spanCells s) 61)) (.cells (blkCells 2 w2.heap.size) 38)
    simpa using this
  have hj2 : ((w2.drew.alloc (.cells (spanCells s) 61)).alloc (.cells (blkCells 2 w2.heap.size) 38)).heap[w2.heap.size]? = some (.cells (spanCells s) 61 (0, 0)) := by
    rw [Below.heap_alloc _ _ _ (by simp)]
    exact heap_alloc_new w2.drew _
  have HB2 : Hid (Below w.heap.size w ((w2.drew.alloc (.cells (spanCells s) 61)).alloc (.cells (blkCells 2 w2.heap.size) 38))) := Lib.hid ((HB.out.drew.alloc (by show _ ≤ w2.heap.size; omega) _).alloc (by simp; omega) _)
  have K := head30 n wd p c u (w2.heap.size + 1) w2.heap.size s _ hn6 (HT.out.below HB2.out) (var_below HTB.out HB2.out) HO.out HM.out hk2 hj2
  rw [hO] at K
  have K30 := Lib.hid K
  clear hk2 hj2 K
  unfold lookCells blkCells spanCells at K30
  obtain ⟨I, hI_, hIs⟩ : ∃ I : ByteArray, (⟨(idL s.data.toList).toArray⟩ : ByteArray) = I ∧ I.size = 4 + s.size := by
    refine ⟨_, rfl, ?_⟩
    rw [Lib.size_eq, Lib.size_eq]
    simp only [idL, List.length_append, List.length_map, List.length_cons, List.length_nil]
  have hI := Lib.hid hI_
  have HOO := Lib.hid hO
  have hlev6 : levB n ≤ 6 := by unfold levB; split <;> omega
  have HST : Hid (∃ k, StandsAt O I k) := Lib.hid (has_md n s O I hO hI_)
  have hOsz : O.size ≤ 140737488355328 := by
    rw [Lib.size_eq, ← hO]
    show (mdL _ _ _).length ≤ _
    simp only [mdL, hpL, idL, repeatL_one, List.length_append, List.length_map, List.length_cons, List.length_nil, ← Lib.size_eq]
    omega
  clear hI_ hO
  go_region_with (first
    | (go_at_call 14
       refine (w14 s _).mono ?_
       rintro e w' ⟨rfl, rfl⟩)
    | (go_at_call 30
       refine K30.out.mono ?_
       rintro e w3 ⟨rfl, hb3⟩
       have HB3 := Lib.hid (HB2.out.trans (hb3.mono HB2.out.size))
       have H3 : Hid (w3.heap[w.heap.size]? = some (.cells (lookCells n wd p c u) 31 (0, 0))) := Lib.hid (by
         rw [hb3.block _ (by simp; omega), Below.heap_alloc _ _ _ (by simp; omega), Below.heap_alloc _ _ _ (by show _ < w2.heap.size; omega)]
         exact H0.out)
       have cellL : ∀ i, w3.cell? ⟨w.heap.size, i, none⟩ = (lookCells n wd p c u)[i]? := fun i => Lib.cell_of_heap H3.out i
       have b0 : w3.cell? ⟨w.heap.size, 0, none⟩ = some (.int .i64 n) := cellL 0
       have b1 : w3.cell? ⟨w.heap.size, 1, none⟩ = some (.string p) := cellL 1
       have b2 : w3.cell? ⟨w.heap.size, 2, none⟩ = some (.string c) := cellL 2
       have b3 : w3.cell? ⟨w.heap.size, 3, none⟩ = some (.int .i64 wd) := cellL 3
       have b4 : w3.cell? ⟨w.heap.size, 4, none⟩ = some (.string u) := cellL 4
       clear hb3 cellL))
  all_goals
    have c28 := w28 n wd p c u w3
    unfold lookCells at c28
    go_wp2_with fail
    refine c28.mono ?_
    rintro e w4 ⟨rfl, rfl⟩
    go_wp2_with fail
    refine (Tryd.strings_Repeat ⟨#[35]⟩ (levB n) _ (by omega) (by show 1 * levB n ≤ _; omega)).mono ?_
    rintro e w5 ⟨rfl, hb5⟩
    obtain ⟨R, hR_, hRs⟩ : ∃ R : ByteArray, (⟨(Lib.repeatL (⟨#[35]⟩ : ByteArray).data.toList (levB n)).toArray⟩ : ByteArray) = R ∧ R.size ≤ 6 := by
      refine ⟨_, rfl, ?_⟩
      rw [Lib.size_eq]
      show (Lib.repeatL [35] (levB n)).length ≤ 6
      rw [repeatL_one]; exact hlev6
    rw [hR_]
    have HR := Lib.hid hR_
    have HB5 : Hid (Below w.heap.size w w5) := Lib.hid ((HB3.out.alloc HB3.out.size _).trans (hb5.mono (by simp; have := HB3.out.size; omega)))
    clear hb5 c28 hR_
    go_wp2_with fail
    refine (Tryd.strings_HasPrefix O _ w5).mono ?_
    rintro e w6 ⟨rfl, rfl⟩
    rw [hp_md n s O R HOO.out HR.out]
    go_wp2_with fail
    refine (w15 s _ HO.out.sz HO.out.asc).mono ?_
    rintro e w7 ⟨rfl, hb7⟩
    rw [hI.out]
    have HB7 : Hid (Below w.heap.size w w7) := Lib.hid (HB5.out.trans (hb7.mono HB5.out.size))
    clear hb7
    go_wp2_with fail
    refine (w11_yes O I _ hOsz (by omega) HST.out).mono ?_
    rintro e w8 ⟨rfl, rfl⟩
    go_wp2_with fail
    go_ret
    exact ⟨rfl, HB7.out⟩

theorem w9 (n wd : Int) (p c u s : ByteArray) (w : World) (ht : Tabs w) (htb : Bsp w) : Calls Tryd.prog 9 #[.agg (lookCells n wd p c u), .string s] w (LawPost w) := by
  cases hf : fitsB p c u with
  | false => exact w9_unfit n wd p c u s w hf
  | true =>
    by_cases hs : s.size ≤ 2147483647
    · cases hw : wordsB s.data.toList with
      | false => exact w9_nowords n wd p c u s w hf hs hw
      | true =>
        by_cases h0 : n < 0
        · exact w9_neg n wd p c u s w hf hs hw h0
        · by_cases h6 : 6 < n
          · exact w9_great n wd p c u s w hf hs hw h0 h6
          · obtain ⟨m, rfl⟩ : ∃ m : Nat, n = m := ⟨n.toNat, by omega⟩
            exact w9_main m wd p c u s w ht htb hf hs hw (by omega)
    · exact w9_big n wd p c u s w hf (by omega)

end Go.Proofs.YtmjeokabbmigjaaDoor
