/-
  The law FnTextCode's main ways, walked.
-/
import Derived.Test.YtmjeokabbmigjaaDoorTm
namespace Go.Proofs.YtmjeokabbmigjaaDoor
open Go.RowKit

set_option maxHeartbeats 4000000 in
set_option maxRecDepth 100000 in
theorem w5_ne (n wd : Int) (p c u s b : ByteArray) (m : Nat) (w : World) (h : fitsB p c u = true) (hs : s.size ≤ 2147483647) (hm : s.size = m + 1) (hb : s.extract 0 m = b) (hbe : s.data.toList = b.data.toList ++ [10]) (hw : linesB s.data.toList = true)
    (ha : anyB (p ++ c).data.toList [10] = false) (hr : p.size + (c : ByteArray).size ≤ 100) (hcne : c.data.toList ≠ []) : Calls Tryd.prog 5 #[.agg (lookCells n wd p c u), .string s] w (LawPost w) := by
  have c16 := fun w => w16 n wd p c u w
  unfold fitsB at h
  rw [h] at c16
  have c17 := fun w => w17 s w hs
  rw [hw] at c17
  have hpc : (p ++ c).size ≤ 8589934592 := by rw [ByteArray.size_append]; omega
  have c18 := fun w => w18 (p ++ c) ⟨#[10]⟩ w hpc (by decide)
  rw [show anyB (p ++ c).data.toList (⟨#[10]⟩ : ByteArray).data.toList = false from ha] at c18
  obtain ⟨hlok, hl6, htext⟩ := splitParts hbe hw
  have hbs : b.size ≤ 8589934592 := by
    have h1 := congrArg List.length hbe
    rw [List.length_append, ← Lib.size_eq, ← Lib.size_eq] at h1
    simp only [List.length_cons, List.length_nil] at h1
    omega
  have c19 := fun w => w19 b 10 w hbs
  have hps0 := splitL_ne 10 b.data.toList
  generalize hps : splitL 10 b.data.toList = ps at hlok hl6 htext c19 hps0
  have hcs : (c : ByteArray).size ≤ 1000 := by omega
  have hps1 : p.size ≤ 1000 := by omega
  have c20 := fun k w hk => code20 n wd p c u k s ps w hps1 hcs hk htext hlok hl6 hps0
  have hce : c.toList.isEmpty = false := not_empty hcne
  rw [show cpOf p c = c from if_neg hcne] at c20
  have C := Lib.hid c16
  have C17 := Lib.hid c17
  have C18 := Lib.hid c18
  have C19 := Lib.hid c19
  have C20 := Lib.hid c20
  have HLOK := Lib.hid hlok
  have HB0 := Lib.hid hb
  have HM := Lib.hid hm
  clear c16 h c17 hw c18 ha hpc c19 c20 hps hlok htext hbe hps0 hb hm
  have hr2 : (p.size : Int) + ((c : ByteArray).size : Int) ≤ 100 := by omega
  unfold lookCells at C ⊢
  go_enter Tryd.func5, Tryd.ntmps5
  go_wp2_with fail
  refine (C.out _).mono ?_
  rintro e w1 ⟨rfl, rfl⟩
  go_wp2_with fail
  refine (C17.out _).mono ?_
  rintro e w2 ⟨rfl, hb⟩
  have HB : Hid (Below w.heap.size w w2) := Lib.hid ((((Below.refl _ w).alloc (Nat.le_refl _) _).alloc (by simp) _).trans (hb.mono (by simp; omega)))
  have l0 : w.heap.size < w2.heap.size := by have := hb.size; simp at this; omega
  have H0 : Hid (w2.heap[w.heap.size]? = some (.cells (lookCells n wd p c u) 31 (0, 0))) := Lib.hid (by
    rw [hb.block _ (by simp; omega), Below.heap_alloc _ _ _ (by simp)]
    exact heap_alloc_new w _)
  have q1 : w2.cell? ⟨w.heap.size, 1, none⟩ = some (.string p) := Lib.cell_of_heap H0.out 1
  have q2 : w2.cell? ⟨w.heap.size, 2, none⟩ = some (.string c) := Lib.cell_of_heap H0.out 2
  clear hb
  go_wp2_with fail
  refine (C18.out _).mono ?_
  rintro e w3 ⟨rfl, hb3⟩
  have l3 : w.heap.size < w3.heap.size := by have := hb3.size; omega
  have H3 : Hid (w3.heap[w.heap.size]? = some (.cells (lookCells n wd p c u) 31 (0, 0))) := Lib.hid ((hb3.block _ l0).trans H0.out)
  have r1 : w3.cell? ⟨w.heap.size, 1, none⟩ = some (.string p) := Lib.cell_of_heap H3.out 1
  have r2 : w3.cell? ⟨w.heap.size, 2, none⟩ = some (.string c) := Lib.cell_of_heap H3.out 2
  have HB3 : Hid (Below w.heap.size w w3) := Lib.hid (HB.out.trans (hb3.mono (by omega)))
  clear hb3
  have hm := HM.out
  go_wp2_with fail
  rw [HB0.out]
  clear hm
  refine (C19.out _).mono ?_
  rintro e w4 ⟨A, cap, rfl, hown, hb4⟩
  have HO := Lib.hid hown
  have l4 : w.heap.size < w4.heap.size := by have := hb4.size; omega
  have H4 : Hid (w4.heap[w.heap.size]? = some (.cells (lookCells n wd p c u) 31 (0, 0))) := Lib.hid ((hb4.block _ l3).trans H3.out)
  have HB4 : Hid (Below w.heap.size w w4) := Lib.hid (HB3.out.trans (hb4.mono (by omega)))
  have cellL : ∀ i, w4.cell? ⟨w.heap.size, i, none⟩ = (lookCells n wd p c u)[i]? := fun i => Lib.cell_of_heap H4.out i
  have a0 : w4.cell? ⟨w.heap.size, 0, none⟩ = some (.int .i64 n) := cellL 0
  have a1 : w4.cell? ⟨w.heap.size, 1, none⟩ = some (.string p) := cellL 1
  have a2 : w4.cell? ⟨w.heap.size, 2, none⟩ = some (.string c) := cellL 2
  have a3 : w4.cell? ⟨w.heap.size, 3, none⟩ = some (.int .i64 wd) := cellL 3
  have a4 : w4.cell? ⟨w.heap.size, 4, none⟩ = some (.string u) := cellL 4
  clear hown hb4 cellL
  go_wp2_with fail
  obtain ⟨CP, hCP⟩ : ∃ CP : ByteArray, CP = c := ⟨_, rfl⟩
  have hCPs : CP.size ≤ 101 := by rw [hCP]; omega
  rw [← hCP]
  have HCP := Lib.hid hCP
  clear hCP
  go_loop [6, 52] (fun v i => ∃ (k : Nat) (want : ByteArray), v = .string want ∧ i = .int .i64 k ∧ k ≤ ps.length ∧ Hid (want.data.toList = codeL CP.data.toList (ps.take k)) ∧ want.size ≤ k * 400) (fun _ i => ps.length - (intOf i).toNat)
  case atStart => exact ⟨0, ⟨#[]⟩, rfl, rfl, Nat.zero_le _, Lib.hid (by simp [codeL]), by decide⟩
  case round =>
    obtain ⟨k, want, rfl, rfl, hk, hwant, hwsz⟩ := hrel
    by_cases hlt : k < ps.length
    · have c0 := strs_cell HO.out k hlt
      obtain ⟨x, hx, hxd⟩ := strV_eq ps[k]
      rw [hx] at c0
      have hxs : x.size ≤ 270 := by
        have := (HLOK.out ps[k] (List.getElem_mem hlt)).len
        rw [Lib.size_eq, hxd]; exact this
      have HX := Lib.hid hxd
      clear hxd hx
      go_wp2_with fail
      go_round
      case rel =>
        refine ⟨k + 1, _, rfl, by go_num, by omega, Lib.hid ?_, ?_⟩
        · rw [List.take_succ_eq_append_getElem hlt]
          simp only [codeL, List.flatMap_append]
          rw [← show codeL CP.data.toList (ps.take k) = List.flatMap (fun p => CP.data.toList ++ p ++ [10]) (ps.take k) from rfl, ← hwant.out]
          simp [HX.out]
        · simp only [ByteArray.size_append]
          show want.size + (CP.size + x.size + 1) ≤ _
          omega
      case measure => simp [intOf]; omega
    · obtain rfl : k = ps.length := by omega
      have hO : Hid ((⟨(codeL (c : ByteArray).data.toList ps).toArray⟩ : ByteArray) = want) := Lib.hid (by
        rw [← HCP.out]
        have := hwant.out
        rw [List.take_length] at this
        apply ByteArray.ext; apply Array.toList_inj.1
        exact this.symm)
      have C21 := C20.out w4.heap.size _ (heap_alloc_new w4 (.cells (codeCells s) 38))
      rw [hO.out] at C21
      unfold lookCells codeCells at C21
      have C22 := Lib.hid C21
      clear C21
      go_wp2_with fail
      refine C22.out.mono ?_
      rintro e w6 ⟨rfl, hb6⟩
      have HB6 : Hid (Below w.heap.size w w6) := Lib.hid ((HB4.out.alloc HB4.out.size _).trans (hb6.mono (by simp; omega)))
      clear hb6
      go_wp2_with fail
      go_ret
      exact ⟨by simp, HB6.out⟩

set_option maxHeartbeats 4000000 in
set_option maxRecDepth 100000 in
theorem w5_nil (n wd : Int) (p u s b : ByteArray) (m : Nat) (w : World) (h : fitsB p ⟨#[]⟩ u = true) (hs : s.size ≤ 2147483647) (hm : s.size = m + 1) (hb : s.extract 0 m = b) (hbe : s.data.toList = b.data.toList ++ [10]) (hw : linesB s.data.toList = true)
    (ha : anyB (p ++ ⟨#[]⟩).data.toList [10] = false) (hr : p.size + (⟨#[]⟩ : ByteArray).size ≤ 100) : Calls Tryd.prog 5 #[.agg (lookCells n wd p ⟨#[]⟩ u), .string s] w (LawPost w) := by
  have c16 := fun w => w16 n wd p ⟨#[]⟩ u w
  unfold fitsB at h
  rw [h] at c16
  have c17 := fun w => w17 s w hs
  rw [hw] at c17
  have hpc : (p ++ ⟨#[]⟩).size ≤ 8589934592 := by rw [ByteArray.size_append]; omega
  have c18 := fun w => w18 (p ++ ⟨#[]⟩) ⟨#[10]⟩ w hpc (by decide)
  rw [show anyB (p ++ ⟨#[]⟩).data.toList (⟨#[10]⟩ : ByteArray).data.toList = false from ha] at c18
  obtain ⟨hlok, hl6, htext⟩ := splitParts hbe hw
  have hbs : b.size ≤ 8589934592 := by
    have h1 := congrArg List.length hbe
    rw [List.length_append, ← Lib.size_eq, ← Lib.size_eq] at h1
    simp only [List.length_cons, List.length_nil] at h1
    omega
  have c19 := fun w => w19 b 10 w hbs
  have hps0 := splitL_ne 10 b.data.toList
  generalize hps : splitL 10 b.data.toList = ps at hlok hl6 htext c19 hps0
  have hcs : (⟨#[]⟩ : ByteArray).size ≤ 1000 := by omega
  have hps1 : p.size ≤ 1000 := by omega
  have c20 := fun k w hk => code20 n wd p ⟨#[]⟩ u k s ps w hps1 hcs hk htext hlok hl6 hps0
  rw [show cpOf p ⟨#[]⟩ = p ++ ⟨#[9]⟩ from if_pos rfl] at c20
  have C := Lib.hid c16
  have C17 := Lib.hid c17
  have C18 := Lib.hid c18
  have C19 := Lib.hid c19
  have C20 := Lib.hid c20
  have HLOK := Lib.hid hlok
  have HB0 := Lib.hid hb
  have HM := Lib.hid hm
  clear c16 h c17 hw c18 ha hpc c19 c20 hps hlok htext hbe hps0 hb hm
  have hr2 : (p.size : Int) + ((⟨#[]⟩ : ByteArray).size : Int) ≤ 100 := by omega
  unfold lookCells at C ⊢
  go_enter Tryd.func5, Tryd.ntmps5
  go_wp2_with fail
  refine (C.out _).mono ?_
  rintro e w1 ⟨rfl, rfl⟩
  go_wp2_with fail
  refine (C17.out _).mono ?_
  rintro e w2 ⟨rfl, hb⟩
  have HB : Hid (Below w.heap.size w w2) := Lib.hid ((((Below.refl _ w).alloc (Nat.le_refl _) _).alloc (by simp) _).trans (hb.mono (by simp; omega)))
  have l0 : w.heap.size < w2.heap.size := by have := hb.size; simp at this; omega
  have H0 : Hid (w2.heap[w.heap.size]? = some (.cells (lookCells n wd p ⟨#[]⟩ u) 31 (0, 0))) := Lib.hid (by
    rw [hb.block _ (by simp; omega), Below.heap_alloc _ _ _ (by simp)]
    exact heap_alloc_new w _)
  have q1 : w2.cell? ⟨w.heap.size, 1, none⟩ = some (.string p) := Lib.cell_of_heap H0.out 1
  have q2 : w2.cell? ⟨w.heap.size, 2, none⟩ = some (.string ⟨#[]⟩) := Lib.cell_of_heap H0.out 2
  clear hb
  go_wp2_with fail
  refine (C18.out _).mono ?_
  rintro e w3 ⟨rfl, hb3⟩
  have l3 : w.heap.size < w3.heap.size := by have := hb3.size; omega
  have H3 : Hid (w3.heap[w.heap.size]? = some (.cells (lookCells n wd p ⟨#[]⟩ u) 31 (0, 0))) := Lib.hid ((hb3.block _ l0).trans H0.out)
  have r1 : w3.cell? ⟨w.heap.size, 1, none⟩ = some (.string p) := Lib.cell_of_heap H3.out 1
  have r2 : w3.cell? ⟨w.heap.size, 2, none⟩ = some (.string ⟨#[]⟩) := Lib.cell_of_heap H3.out 2
  have HB3 : Hid (Below w.heap.size w w3) := Lib.hid (HB.out.trans (hb3.mono (by omega)))
  clear hb3
  have hm := HM.out
  go_wp2_with fail
  rw [HB0.out]
  clear hm
  refine (C19.out _).mono ?_
  rintro e w4 ⟨A, cap, rfl, hown, hb4⟩
  have HO := Lib.hid hown
  have l4 : w.heap.size < w4.heap.size := by have := hb4.size; omega
  have H4 : Hid (w4.heap[w.heap.size]? = some (.cells (lookCells n wd p ⟨#[]⟩ u) 31 (0, 0))) := Lib.hid ((hb4.block _ l3).trans H3.out)
  have HB4 : Hid (Below w.heap.size w w4) := Lib.hid (HB3.out.trans (hb4.mono (by omega)))
  have cellL : ∀ i, w4.cell? ⟨w.heap.size, i, none⟩ = (lookCells n wd p ⟨#[]⟩ u)[i]? := fun i => Lib.cell_of_heap H4.out i
  have a0 : w4.cell? ⟨w.heap.size, 0, none⟩ = some (.int .i64 n) := cellL 0
  have a1 : w4.cell? ⟨w.heap.size, 1, none⟩ = some (.string p) := cellL 1
  have a2 : w4.cell? ⟨w.heap.size, 2, none⟩ = some (.string ⟨#[]⟩) := cellL 2
  have a3 : w4.cell? ⟨w.heap.size, 3, none⟩ = some (.int .i64 wd) := cellL 3
  have a4 : w4.cell? ⟨w.heap.size, 4, none⟩ = some (.string u) := cellL 4
  clear hown hb4 cellL
  go_wp2_with fail
  obtain ⟨CP, hCP⟩ : ∃ CP : ByteArray, CP = (p ++ ⟨#[9]⟩) := ⟨_, rfl⟩
  have hCPs : CP.size ≤ 101 := by rw [hCP]; rw [ByteArray.size_append]; show p.size + 1 ≤ _; omega
  rw [← hCP]
  have HCP := Lib.hid hCP
  clear hCP
  go_loop [6, 52] (fun v i => ∃ (k : Nat) (want : ByteArray), v = .string want ∧ i = .int .i64 k ∧ k ≤ ps.length ∧ Hid (want.data.toList = codeL CP.data.toList (ps.take k)) ∧ want.size ≤ k * 400) (fun _ i => ps.length - (intOf i).toNat)
  case atStart => exact ⟨0, ⟨#[]⟩, rfl, rfl, Nat.zero_le _, Lib.hid (by simp [codeL]), by decide⟩
  case round =>
    obtain ⟨k, want, rfl, rfl, hk, hwant, hwsz⟩ := hrel
    by_cases hlt : k < ps.length
    · have c0 := strs_cell HO.out k hlt
      obtain ⟨x, hx, hxd⟩ := strV_eq ps[k]
      rw [hx] at c0
      have hxs : x.size ≤ 270 := by
        have := (HLOK.out ps[k] (List.getElem_mem hlt)).len
        rw [Lib.size_eq, hxd]; exact this
      have HX := Lib.hid hxd
      clear hxd hx
      go_wp2_with fail
      go_round
      case rel =>
        refine ⟨k + 1, _, rfl, by go_num, by omega, Lib.hid ?_, ?_⟩
        · rw [List.take_succ_eq_append_getElem hlt]
          simp only [codeL, List.flatMap_append]
          rw [← show codeL CP.data.toList (ps.take k) = List.flatMap (fun p => CP.data.toList ++ p ++ [10]) (ps.take k) from rfl, ← hwant.out]
          simp [HX.out]
        · simp only [ByteArray.size_append]
          show want.size + (CP.size + x.size + 1) ≤ _
          omega
      case measure => simp [intOf]; omega
    · obtain rfl : k = ps.length := by omega
      have hO : Hid ((⟨(codeL ((p ++ ⟨#[9]⟩) : ByteArray).data.toList ps).toArray⟩ : ByteArray) = want) := Lib.hid (by
        rw [← HCP.out]
        have := hwant.out
        rw [List.take_length] at this
        apply ByteArray.ext; apply Array.toList_inj.1
        exact this.symm)
      have C21 := C20.out w4.heap.size _ (heap_alloc_new w4 (.cells (codeCells s) 38))
      rw [hO.out] at C21
      unfold lookCells codeCells at C21
      have C22 := Lib.hid C21
      clear C21
      go_wp2_with fail
      refine C22.out.mono ?_
      rintro e w6 ⟨rfl, hb6⟩
      have HB6 : Hid (Below w.heap.size w w6) := Lib.hid ((HB4.out.alloc HB4.out.size _).trans (hb6.mono (by simp; omega)))
      clear hb6
      go_wp2_with fail
      go_ret
      exact ⟨by simp, HB6.out⟩

theorem w5 (n wd : Int) (p c u s : ByteArray) (w : World) : Calls Tryd.prog 5 #[.agg (lookCells n wd p c u), .string s] w (LawPost w) := by
  cases hf : fitsB p c u with
  | false => exact w5_unfit n wd p c u s w hf
  | true =>
    by_cases hs : s.size ≤ 2147483647
    · cases hw : linesB s.data.toList with
      | false => exact w5_nolines n wd p c u s w hf hs hw
      | true =>
        cases ha : anyB (p ++ c).data.toList [10] with
        | true => exact w5_any n wd p c u s w hf hs hw true ha (fun h => by cases h)
        | false =>
          by_cases h100 : 100 < p.size + c.size
          · exact w5_any n wd p c u s w hf hs hw false ha (fun _ => h100)
          · have h1 : s.data.toList = s.data.toList.dropLast ++ [10] := by
              cases hh : Lib.hasSuffix s.data.toList [10] with
              | true => exact suffix_nl hh
              | false => rw [suffix_no hh] at hw; cases hw
            have hm : s.size = (s.size - 1) + 1 := by
              have := congrArg List.length h1
              rw [List.length_append, ← Lib.size_eq] at this
              simp at this
              omega
            have hbe : s.data.toList = (s.extract 0 (s.size - 1)).data.toList ++ [10] := by
              rw [ex_data]
              simp only [List.drop_zero, Nat.sub_zero]
              conv => lhs; rw [h1]
              congr 1
              rw [List.dropLast_eq_take, ← Lib.size_eq]
            by_cases hc0 : c.data.toList = []
            · obtain rfl : c = ⟨#[]⟩ := by
                obtain ⟨⟨l⟩⟩ := c
                simp at hc0
                rw [hc0]
              exact w5_nil n wd p u s _ (s.size - 1) w hf hs hm rfl hbe hw ha (by omega)
            · exact w5_ne n wd p c u s _ (s.size - 1) w hf hs hm rfl hbe hw ha (by omega) hc0
    · exact w5_big n wd p c u s w hf (by omega)

end Go.Proofs.YtmjeokabbmigjaaDoor
