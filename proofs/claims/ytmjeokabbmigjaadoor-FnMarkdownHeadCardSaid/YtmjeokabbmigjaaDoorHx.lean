/-
  The law FnHTMLHead's main way, walked.
-/
import Derived.Test.YtmjeokabbmigjaaDoorHw
namespace Go.Proofs.YtmjeokabbmigjaaDoor
open Go.RowKit

theorem conv_level (n : Nat) (h : n ≤ 6) (w : World) : (convert 21 9 (.int .i32 (48 + (n : Int)))).run Tryd.prog w = .ok (.string ⟨#[UInt8.ofNat (48 + n)]⟩) w := by
  have h1 : (UInt8.ofNat (48 + n)).toNat = 48 + n := by
    rw [UInt8.toNat_ofNat']
    exact Nat.mod_eq_of_lt (by omega)
  have := conv_ascii (UInt8.ofNat (48 + n)) (by omega) w
  rw [h1] at this
  exact this

theorem hp_str (v : Nat) (s O I : ByteArray) (hO : (⟨(headL [UInt8.ofNat (48 + v)] (idL s.data.toList) s.data.toList).toArray⟩ : ByteArray) = O) (hI : (⟨(idL s.data.toList).toArray⟩ : ByteArray) = I) :
    Lib.hasPrefix O.data.toList (({ data := #[60, 104] } ++ { data := #[48 + UInt8.ofNat v] } ++ { data := #[32, 105, 100, 61, 34] } ++ I ++ { data := #[34, 62] } : ByteArray)).data.toList = true := by
  subst hO hI
  have hd : UInt8.ofNat (48 + v) = 48 + UInt8.ofNat v := by simp
  rw [hd]
  unfold Lib.hasPrefix
  rw [List.isPrefixOf_iff_prefix]
  refine ⟨s.data.toList ++ [60, 47, 104] ++ [48 + UInt8.ofNat v] ++ [62, 10], ?_⟩
  simp [headL]

theorem stands_mid {O s : ByteArray} {pre post : List UInt8} (h : O.data.toList = pre ++ s.data.toList ++ post) : StandsAt O s pre.length := by
  refine ⟨?_, ?_⟩
  · rw [Lib.size_eq O, h]
    simp only [List.length_append, ← Lib.size_eq]
    omega
  · rw [Lib.toList_data, Lib.toList_data, ex_data, h, List.append_assoc, List.drop_left, Nat.add_sub_cancel_left, Lib.size_eq, List.take_left]

theorem has_str (h id : List UInt8) (s O : ByteArray) (hO : (⟨(headL h id s.data.toList).toArray⟩ : ByteArray) = O) : ∃ k, StandsAt O s k := by
  subst hO
  refine ⟨_, stands_mid (pre := [60, 104] ++ h ++ ([32, 105, 100, 61, 34] ++ id ++ [34]) ++ [62]) (post := [60, 47, 104] ++ h ++ [62, 10]) ?_⟩
  simp [headL]

set_option maxHeartbeats 4000000 in
set_option maxRecDepth 100000 in
theorem w7_main (n : Nat) (wd : Int) (p c u s : ByteArray) (w : World) (ht : Tabs w) (h : fitsB p c u = true) (hs : s.size ≤ 2147483647) (hw : wordsB s.data.toList = true) (hn6 : n ≤ 6) : Calls Tryd.prog 7 #[.agg (lookCells n wd p c u), .string s] w (LawPost w) := by
  have c16 := fun w => w16 n wd p c u w
  unfold fitsB at h
  rw [h] at c16
  have c26 := fun w => w26 s w hs
  rw [hw] at c26
  have HO := Lib.hid (headOk_of hw)
  have HPL := Lib.hid (words_plain hw)
  have hsz : s.size ≤ 270 := by have := words_len hw; rwa [← Lib.size_eq] at this
  have C := Lib.hid c16
  have C26 := Lib.hid c26
  have HT := Lib.hid ht
  clear c16 h c26 hw ht
  have hn0 : ¬ ((n : Int) < 0) := by omega
  have hn66 : ¬ (6 < (n : Int)) := by omega
  unfold lookCells at C ⊢
  go_enter Tryd.func7, Tryd.ntmps7
  go_wp2_with fail
  refine (C.out _).mono ?_
  rintro e w1 ⟨rfl, rfl⟩
  go_wp2_with fail
  refine (C26.out _).mono ?_
  rintro e w2 ⟨rfl, hb⟩
  have HB : Hid (Below w.heap.size w w2) := Lib.hid ((((Below.refl _ w).alloc (Nat.le_refl _) _).alloc (by simp) _).trans (hb.mono (by simp; omega)))
  have l0 : w.heap.size < w2.heap.size := by have := hb.size; simp at this; omega
  have H0 : Hid (w2.heap[w.heap.size]? = some (.cells (lookCells n wd p c u) 31 (0, 0))) := Lib.hid (by
    rw [hb.block _ (by simp; omega), Below.heap_alloc _ _ _ (by simp)]
    exact heap_alloc_new w _)
  have cellL : ∀ i, w2.cell? ⟨w.heap.size, i, none⟩ = (lookCells n wd p c u)[i]? := fun i => Lib.cell_of_heap H0.out i
  have a0 : w2.cell? ⟨w.heap.size, 0, none⟩ = some (.int .i64 n) := cellL 0
  have a1 : w2.cell? ⟨w.heap.size, 1, none⟩ = some (.string p) := cellL 1
  have a2 : w2.cell? ⟨w.heap.size, 2, none⟩ = some (.string c) := cellL 2
  have a3 : w2.cell? ⟨w.heap.size, 3, none⟩ = some (.int .i64 wd) := cellL 3
  have a4 : w2.cell? ⟨w.heap.size, 4, none⟩ = some (.string u) := cellL 4
  clear hb cellL
  go_wp2_with fail
  obtain ⟨O, hO⟩ : ∃ O : ByteArray, (⟨(headL [UInt8.ofNat (48 + levB n)] (idL s.data.toList) s.data.toList).toArray⟩ : ByteArray) = O := ⟨_, rfl⟩
  have hk2 : ((w2.drew.alloc (.cells (spanCells s) 61)).alloc (.cells (blkCells 2 w2.heap.size) 38)).heap[w2.heap.size + 1]? = some (.cells (blkCells 2 w2.heap.size) 38 (0, 0)) := by
    have := heap_alloc_new (w2.drew.alloc (.cells (spanCells s) 61)) (.cells (blkCells 2 w2.heap.size) 38)
    simpa using this
  have hj2 : ((w2.drew.alloc (.cells (spanCells s) 61)).alloc (.cells (blkCells 2 w2.heap.size) 38)).heap[w2.heap.size]? = some (.cells (spanCells s) 61 (0, 0)) := by
    rw [Below.heap_alloc _ _ _ (by simp)]
    exact heap_alloc_new w2.drew _
  have HB2 : Hid (Below w.heap.size w ((w2.drew.alloc (.cells (spanCells s) 61)).alloc (.cells (blkCells 2 w2.heap.size) 38))) := Lib.hid ((HB.out.drew.alloc (by show _ ≤ w2.heap.size; omega) _).alloc (by simp; omega) _)
  have K := head27 n wd p c u (w2.heap.size + 1) w2.heap.size s _ hn6 (HT.out.below HB2.out) HO.out HPL.out hk2 hj2
  rw [hO] at K
  have K27 := Lib.hid K
  clear hk2 hj2 K
  unfold lookCells blkCells spanCells at K27
  obtain ⟨I, hI_, hIs⟩ : ∃ I : ByteArray, (⟨(idL s.data.toList).toArray⟩ : ByteArray) = I ∧ I.size = 4 + s.size := by
    refine ⟨_, rfl, ?_⟩
    rw [Lib.size_eq, Lib.size_eq]
    simp only [idL, List.length_append, List.length_map, List.length_cons, List.length_nil]
  have hI := Lib.hid hI_
  have HOO := Lib.hid hO
  have hlev6 : levB n ≤ 6 := by unfold levB; split <;> omega
  have cv := fun w => conv_level (levB n) hlev6 w
  have HST : Hid (∃ k, StandsAt O s k) := Lib.hid (has_str _ _ s O hO)
  have hOsz : O.size ≤ 140737488355328 := by
    rw [Lib.size_eq, ← hO]
    show (headL _ _ _).length ≤ _
    simp only [headL, idL, List.length_append, List.length_map, List.length_cons, List.length_nil, ← Lib.size_eq]
    omega
  clear hI_ hO
  go_region_with (first
    | (go_at_call 14
       refine (w14 s _).mono ?_
       rintro e w' ⟨rfl, rfl⟩)
    | (go_at_call 27
       refine K27.out.mono ?_
       rintro e w3 ⟨rfl, hb3⟩
       have HB3 := Lib.hid (HB2.out.trans (hb3.mono HB2.out.size))
       have H3 : Hid (w3.heap[w.heap.size]? = some (.cells (lookCells n wd p c u) 31 (0, 0))) := Lib.hid (by
         rw [hb3.block _ (by simp; omega), Below.heap_alloc _ _ _ (by simp; omega), Below.heap_alloc _ _ _ (by show _ < w2.heap.size; omega)]
         exact H0.out)
       have cellL : ∀ i, w3.cell? ⟨w.heap.size, i, none⟩ = (lookCells n wd p c u)[i]? := fun i => Lib.cell_of_heap H3.out i
       have b0 : w3.cell? ⟨w.heap.size, 0, none⟩ = some (.int .i64 n) := cellL 0
       have b1 : w3.cell? ⟨w.heap.size, 1, none⟩ = some (.string p) := cellL 1
       have b2 : w3.cell? ⟨w.heap.size, 2, none⟩ = some (.string c) := cellL 2
       have b3 : w3.cell? ⟨w.heap.size, 3, none⟩ = some (.int .i64 wd) := cellL 3
       have b4 : w3.cell? ⟨w.heap.size, 4, none⟩ = some (.string u) := cellL 4
       clear hb3 cellL))
  all_goals
    have c28 := w28 n wd p c u w3
    unfold lookCells at c28
    go_wp2_with fail
    refine c28.mono ?_
    rintro e w4 ⟨rfl, rfl⟩
    go_wp2_with fail
    refine (w15 s _ HO.out.sz HO.out.asc).mono ?_
    rintro e w5 ⟨rfl, hb5⟩
    rw [hI.out]
    have HB5 : Hid (Below w.heap.size w w5) := Lib.hid ((HB3.out.alloc HB3.out.size _).trans (hb5.mono (by simp; have := HB3.out.size; omega)))
    clear hb5 c28
    go_wp2_with fail
    refine (Tryd.strings_HasPrefix O _ w5).mono ?_
    rintro e w6 ⟨rfl, rfl⟩
    rw [hp_str (levB n) s O I HOO.out hI.out]
    go_wp2_with fail
    refine (w11_yes O s _ hOsz (by omega) HST.out).mono ?_
    rintro e w6 ⟨rfl, rfl⟩
    go_wp2_with fail
    go_ret
    exact ⟨rfl, HB5.out⟩

theorem w7 (n wd : Int) (p c u s : ByteArray) (w : World) (ht : Tabs w) : Calls Tryd.prog 7 #[.agg (lookCells n wd p c u), .string s] w (LawPost w) := by
  cases hf : fitsB p c u with
  | false => exact w7_unfit n wd p c u s w hf
  | true =>
    by_cases hs : s.size ≤ 2147483647
    · cases hw : wordsB s.data.toList with
      | false => exact w7_nowords n wd p c u s w hf hs hw
      | true =>
        by_cases h0 : n < 0
        · exact w7_neg n wd p c u s w hf hs hw h0
        · by_cases h6 : 6 < n
          · exact w7_great n wd p c u s w hf hs hw h0 h6
          · obtain ⟨m, rfl⟩ : ∃ m : Nat, n = m := ⟨n.toNat, by omega⟩
            exact w7_main m wd p c u s w ht hf hs hw (by omega)
    · exact w7_big n wd p c u s w hf (by omega)

end Go.Proofs.YtmjeokabbmigjaaDoor
