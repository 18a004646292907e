/-
  The law FnTextWords' main way, walked.
-/
import Derived.Test.YtmjeokabbmigjaaDoorXb
import Derived.Deep.AppendLies
import Derived.Outline
import Derived.Deep.DeepCutAuto
set_option linter.unusedVariables false
set_option linter.unusedSimpArgs false
namespace Go.Proofs.YtmjeokabbmigjaaDoor
open Go.RowKit

theorem take_flat (segs : List (List (List UInt8))) (k : Nat) (h : k < segs.length) : (segs.take (k + 1)).flatten = (segs.take k).flatten ++ segs[k] := by
  rw [List.take_succ_eq_append_getElem h, List.flatten_append]
  simp

theorem take_few (segs : List (List (List UInt8))) (k : Nat) (h : k < segs.length) : (segs.take k).flatten.length + segs[k].length ≤ segs.flatten.length := by
  have h1 := take_flat segs k h
  have h2 : segs.flatten = (segs.take (k + 1)).flatten ++ (segs.drop (k + 1)).flatten := by rw [← List.flatten_append, List.take_append_drop]
  rw [h2, List.length_append, h1, List.length_append]
  omega

/-- The rest of a line behind its prefix. -/
theorem line_rest {X p : ByteArray} {l : List UInt8} (h : X.data.toList = p.data.toList ++ l) : (X.extract p.size X.size).data.toList = l := by
  rw [ex_rest, h, Lib.size_eq, List.drop_left]

set_option maxHeartbeats 8000000 in
set_option maxRecDepth 100000 in
theorem w6_main (HWR : WrapOk) (n wd : Int) (p c u s : ByteArray) (w : World) (ht : Sps w) (h : fitsB p c u = true) (hs : s.size ≤ 2147483647) (hw : sentB s.data.toList = true) (ha : anyB p.data.toList [10] = false) (hp50 : p.size ≤ 50) :
    Calls Tryd.prog 6 #[.agg (lookCells n wd p c u), .string s] w (LawPost w) := by
  have c16 := fun w => w16 n wd p c u w
  unfold fitsB at h
  rw [h] at c16
  have c21 := fun w => w21 s w hs
  rw [hw] at c21
  have c18 := fun w => w18 p ⟨#[10]⟩ w (by omega) (by decide)
  rw [show anyB p.data.toList (⟨#[10]⟩ : ByteArray).data.toList = false from ha] at c18
  obtain ⟨ws, hws⟩ := sentW_of hw
  have hso := sentOk_of hws
  have hsz := hso.sz
  have hp10 : ∀ x ∈ p.data.toList, x ≠ 10 := by
    intro x hx e
    subst e
    have : anyB p.data.toList [10] = true := by
      unfold anyB
      rw [List.any_eq_true]
      exact ⟨10, hx, rfl⟩
    rw [ha] at this
    cases this
  have C := Lib.hid c16
  have C21 := Lib.hid c21
  have C18 := Lib.hid c18
  have HT := Lib.hid ht
  have HSO := Lib.hid hso
  have HP10 := Lib.hid hp10
  have HW := Lib.hid HWR
  clear c16 h c21 hw c18 ha ht hws hso hp10 HWR
  unfold lookCells at C ⊢
  go_enter Tryd.func6, Tryd.ntmps6
  go_wp2_with fail
  refine (C.out _).mono ?_
  rintro e w1 ⟨rfl, rfl⟩
  go_wp2_with fail
  refine (C21.out _).mono ?_
  rintro e w2 ⟨rfl, hb⟩
  have HB : Hid (Below w.heap.size w w2) := Lib.hid ((((Below.refl _ w).alloc (Nat.le_refl _) _).alloc (by simp) _).trans (hb.mono (by simp <;> omega)))
  have l0 : w.heap.size < w2.heap.size := by have := hb.size; simp at this; omega
  have H0 : Hid (w2.heap[w.heap.size]? = some (.cells (lookCells n wd p c u) 31 (0, 0))) := Lib.hid (by
    rw [hb.block _ (by simp <;> omega), Below.heap_alloc _ _ _ (by simp)]
    exact heap_alloc_new w _)
  have q1 : w2.cell? ⟨w.heap.size, 1, none⟩ = some (.string p) := Lib.cell_of_heap H0.out 1
  clear hb
  go_wp2_with fail
  refine (C18.out _).mono ?_
  rintro e w3 ⟨rfl, hb3⟩
  have HB3 : Hid (Below w.heap.size w w3) := Lib.hid (HB.out.trans (hb3.mono (by omega)))
  have l3 : w.heap.size < w3.heap.size := by have := hb3.size; omega
  have H3 : Hid (w3.heap[w.heap.size]? = some (.cells (lookCells n wd p c u) 31 (0, 0))) := Lib.hid ((hb3.block _ l0).trans H0.out)
  have cellL : ∀ i, w3.cell? ⟨w.heap.size, i, none⟩ = (lookCells n wd p c u)[i]? := fun i => Lib.cell_of_heap H3.out i
  have a0 : w3.cell? ⟨w.heap.size, 0, none⟩ = some (.int .i64 n) := cellL 0
  have a1 : w3.cell? ⟨w.heap.size, 1, none⟩ = some (.string p) := cellL 1
  have a2 : w3.cell? ⟨w.heap.size, 2, none⟩ = some (.string c) := cellL 2
  have a3 : w3.cell? ⟨w.heap.size, 3, none⟩ = some (.int .i64 wd) := cellL 3
  have a4 : w3.cell? ⟨w.heap.size, 4, none⟩ = some (.string u) := cellL 4
  clear hb3 cellL q1
  go_wp2_with fail
  go_cut [5] from 9 (fun s5 wx => ∃ L, Hid (GoodT p ws L) ∧ s5 = .string ⟨L.toArray⟩ ∧ Hid (Below w.heap.size w wx) ∧ Hid (wx.heap[w.heap.size]? = some (.cells (lookCells n wd p c u) 31 (0, 0))))
  case first =>
    have hk2 : ((w3.drew.alloc (.cells (spanCells s) 61)).alloc (.cells (blkCells 1 w3.heap.size) 38)).heap[w3.heap.size + 1]? = some (.cells (blkCells 1 w3.heap.size) 38 (0, 0)) := by
      have := heap_alloc_new (w3.drew.alloc (.cells (spanCells s) 61)) (.cells (blkCells 1 w3.heap.size) 38)
      simpa using this
    have hj2 : ((w3.drew.alloc (.cells (spanCells s) 61)).alloc (.cells (blkCells 1 w3.heap.size) 38)).heap[w3.heap.size]? = some (.cells (spanCells s) 61 (0, 0)) := by
      rw [Below.heap_alloc _ _ _ (by simp)]
      exact heap_alloc_new w3.drew _
    have HB4 : Hid (Below w.heap.size w ((w3.drew.alloc (.cells (spanCells s) 61)).alloc (.cells (blkCells 1 w3.heap.size) 38))) := Lib.hid ((HB3.out.drew.alloc (by show _ ≤ w3.heap.size; omega) _).alloc (by simp <;> omega) _)
    have K := words20 HW.out n wd p c u (w3.heap.size + 1) w3.heap.size s ws _ (by omega) (HT.out.below HB4.out) HSO.out hk2 hj2
    have K20 := Lib.hid K
    clear hk2 hj2 K
    unfold lookCells blkCells spanCells at K20
    go_region_with (first
      | (go_at_call 14
         refine (w14 s _).mono ?_
         rintro e w' ⟨rfl, rfl⟩)
      | (go_at_call 20
         refine K20.out.mono ?_
         rintro e w5 ⟨L, hGL, rfl, hb5⟩
         have HGL := Lib.hid hGL
         have HB5 := Lib.hid (HB4.out.trans (hb5.mono HB4.out.size))
         have H5 : Hid (w5.heap[w.heap.size]? = some (.cells (lookCells n wd p c u) 31 (0, 0))) := Lib.hid (by
           rw [hb5.block _ (by simp <;> omega), Below.heap_alloc _ _ _ (by simp <;> omega), Below.heap_alloc _ _ _ (by show _ < w3.heap.size; omega)]
           exact H3.out)
         clear hb5 hGL))
    all_goals (go_wp2_with fail; go_meet)
    all_goals exact ⟨L, HGL, rfl, HB5, H5⟩
  case rest =>
    obtain ⟨L, HGL, rfl, HB5, H5⟩ := hcut
    generalize wc = w5 at *
    clear a0 a1 a2 a3 a4 HB HB3 H0 H3 l0 l3
    obtain ⟨segs, hsg, hL⟩ := HGL.out
    have hword := HSO.out.sw.word
    have hlines := hsg.lines hword HP10.out
    rw [← hL] at hlines
    have hll : L.length ≤ 3000 := by
      have h1 := linesL_len p.data.toList segs (hsg.word hword)
      have h2 := segs_few segs hsg.full
      rw [hsg.flat] at h1 h2
      have h3 := HSO.out.sw.few
      have h4 : p.data.toList.length ≤ 50 := by rw [← Lib.size_eq]; exact hp50
      have h5 : segs.length * (p.data.toList.length + 1) ≤ 30 * 51 := Nat.mul_le_mul (by omega) (by omega)
      rw [← hL] at h1
      omega
    obtain ⟨O, hO, hOd⟩ : ∃ O : ByteArray, (⟨L.toArray⟩ : ByteArray) = O ∧ O.data.toList = L := ⟨_, rfl, rfl⟩
    rw [hO]
    have hOs : O.size ≤ 3000 := by rw [Lib.size_eq, hOd]; exact hll
    have HOD := Lib.hid hOd
    have HLN := Lib.hid hlines
    have HSG := Lib.hid hsg
    clear hO hOd hlines hsg hL hll HGL hword
    go_wp2_with fail
    refine (Tryd.strings_TrimSuffix O ⟨#[10]⟩ _ (by omega)).mono ?_
    rintro e w6 ⟨rfl, rfl⟩
    rw [HOD.out, show (⟨#[10]⟩ : ByteArray).data.toList = [10] from rfl]
    obtain ⟨Tr, hT, hTd⟩ : ∃ Tr : ByteArray, (⟨(Lib.trimSuffix L [10]).toArray⟩ : ByteArray) = Tr ∧ Tr.data.toList = Lib.trimSuffix L [10] := ⟨_, rfl, rfl⟩
    rw [hT]
    have hTs : Tr.size ≤ 3000 := by
      rw [Lib.size_eq, hTd]
      unfold Lib.trimSuffix
      have h1 : L.length ≤ 3000 := by rw [← HOD.out, ← Lib.size_eq]; exact hOs
      split
      · rw [List.length_take]; omega
      · exact h1
    have hspl : splitL 10 Tr.data.toList = segs.map fun seg => p.data.toList ++ joinL 32 seg := by rw [hTd]; exact HLN.out
    have HSP := Lib.hid hspl
    clear hT hTd hspl
    obtain ⟨B, hB⟩ : ∃ B, B = w5.heap.size := ⟨_, rfl⟩
    have hm30 : segs.length ≤ 30 := by
      have h2 := segs_few segs HSG.out.full
      rw [HSG.out.flat] at h2
      have := HSO.out.sw.few
      omega
    go_wp2_with fail
    refine (w19 Tr 10 _ (by omega)).mono ?_
    rw [HSP.out]
    rintro e w7 ⟨A, capA, rfl, hown, hb7⟩
    obtain ⟨w6, hw6⟩ : ∃ w6, w6 = w5.alloc (.cells #[] 9) := ⟨_, rfl⟩
    rw [← hw6] at hown hb7
    have s6 : w6.heap.size = B + 1 := by rw [hw6, hB]; simp
    have HB7 : Hid (Below w.heap.size w w7) := Lib.hid ((HB5.out.trans (by rw [hw6]; exact ((Below.refl _ w5).alloc (Nat.le_refl _) _).mono HB5.out.size)).trans (hb7.mono (by have := HB5.out.size; omega)))
    have HO7 : Hid (w7.ownsRow B 9 1 (.slice (some ⟨B, 0, none⟩) 0 0) 0 []) := Lib.hid (by
      have h6 : w6.heap[B]? = some (.cells #[] 9 (0, 0)) := by rw [hw6, hB]; exact heap_alloc_new w5 _
      exact ⟨rfl, .inr ⟨B, 0, #[], rfl, Nat.le_refl _, (hb7.block B (by omega)).trans h6, Nat.le_refl _, by decide, rfl, rfl⟩⟩)
    have HL7 : Hid (w7.heap[w.heap.size]? = some (.cells (lookCells n wd p c u) 31 (0, 0))) := Lib.hid (by
      have h1 := Lib.lt_of_heap H5.out
      rw [hb7.block _ (by omega), hw6, Below.heap_alloc _ _ _ h1]
      exact H5.out)
    obtain ⟨cur, hcA, hcc⟩ : ∃ cur, w7.heap[A]? = some (.cells cur 9 (0, 0)) ∧ ∀ k (hk : k < segs.length), cur[k]? = some (strV (p.data.toList ++ joinL 32 segs[k])) := by
      rcases hown.2 with ⟨hv, hn⟩ | ⟨g, cap', cur, hv, hb, hc, hn, hm, hs', ht'⟩
      · cases hv
      · injection hv with hv
        injection hv with hv
        injection hv with hv
        subst hv
        refine ⟨cur, hc, fun k hk => ?_⟩
        have h1 : (cur.toList.take ((segs.map fun seg => p.data.toList ++ joinL 32 seg).length * 1))[k]? = some (strV (p.data.toList ++ joinL 32 segs[k])) := by
          rw [ht']
          simp [hk]
        rw [List.getElem?_take_of_lt (by simpa using hk), Array.getElem?_toList] at h1
        exact h1
    have hAB : B < A := by
      rcases hown.2 with ⟨hv, hn⟩ | ⟨g, cap', cur, hv, hb, hc, hn, hm, hs', ht'⟩
      · cases hv
      · injection hv with hv
        injection hv with hv
        injection hv with hv
        omega
    have HCA := Lib.hid hcA
    have HCC := Lib.hid hcc
    have lA := Lib.lt_of_heap hcA
    have hBw : w.heap.size < B := by have := Lib.lt_of_heap H5.out; omega
    obtain ⟨i0, hi, hz0, hz1, hz2⟩ := info_parts info9
    rw [List.length_map]
    clear hown hb7 hw6 s6 hcA hcc H5 HB5
    go_wp2_with fail
    rw [← hB]
    clear hB
    go_loopg [6, 43] segs.length (fun gg s6 s43 wr => ∃ k gb cnt cap : Nat, k + gg = segs.length ∧ s43 = .int .i64 k ∧ s6 = .slice (some ⟨gb, 0, none⟩) cnt cap ∧ gb ≠ A ∧ cnt ≤ 30 ∧ Hid (cnt = (segs.take k).flatten.length) ∧
      Hid (wr.ownsRow B 9 1 (.slice (some ⟨gb, 0, none⟩) cnt cap) cnt ((segs.take k).flatten.map strV)) ∧ Hid (wr.heap[A]? = some (.cells cur 9 (0, 0))) ∧ Hid (wr.heap[w.heap.size]? = some (.cells (lookCells n wd p c u) 31 (0, 0))) ∧ Hid (Below w.heap.size w wr))
    case atStart => exact ⟨0, B, 0, 0, by omega, rfl, rfl, by omega, by omega, Lib.hid (by simp), Lib.hid (by simpa using HO7.out), HCA, HL7, HB7⟩
    case round =>
      clear HO7 HL7 HB7 HCA
      obtain ⟨k, gb, cnt, cap, hk, rfl, rfl, hgA, hc30, HCN, HO7, HCA, HL7, HB7⟩ := hrel
      by_cases hlt : k < segs.length
      · obtain ⟨X, hX, hXd⟩ : ∃ X : ByteArray, (⟨(p.data.toList ++ joinL 32 segs[k]).toArray⟩ : ByteArray) = X ∧ X.data.toList = p.data.toList ++ joinL 32 segs[k] := ⟨_, rfl, rfl⟩
        have q1 : wr.cell? ⟨A, k, none⟩ = some (.string X) := by rw [Lib.cell_of_heap HCA.out, HCC.out k hlt, ← hX]; rfl
        have q2 : wr.cell? ⟨w.heap.size, 1, none⟩ = some (.string p) := Lib.cell_of_heap HL7.out 1
        have hpre : Lib.hasPrefix X.data.toList p.data.toList = true := by rw [hXd]; simp [Lib.hasPrefix]
        have HXD := Lib.hid hXd
        have hwk : ∀ x ∈ segs[k], Word x := HSG.out.word HSO.out.sw.word _ (List.getElem_mem hlt)
        have hxs : p.size ≤ X.size := by rw [Lib.size_eq, Lib.size_eq, hXd, List.length_append]; omega
        have hP := fun w => Tryd.strings_HasPrefix X p w
        rw [hpre] at hP
        have HP := Lib.hid hP
        have HWK := Lib.hid hwk
        clear hX hXd hpre hP hwk
        go_wp2_with fail
        refine (HP.out _).mono ?_
        rintro e w8 ⟨rfl, rfl⟩
        go_wp2_with fail
        have hfl := take_flat segs k hlt
        have hfw := take_few segs k hlt
        rw [HSG.out.flat] at hfw
        have hwf := HSO.out.sw.few
        have hsne : segs[k] ≠ [] := HSG.out.full _ (List.getElem_mem hlt)
        obtain ⟨seg, hseg⟩ : ∃ seg, segs[k] = seg := ⟨_, rfl⟩
        rw [hseg] at HXD HWK hfl hfw hsne
        obtain ⟨Y, hY, hYd⟩ : ∃ Y, X.extract p.size X.size = Y ∧ Y.data.toList = joinL 32 seg := ⟨_, rfl, line_rest HXD.out⟩
        rw [hY]
        have hl1 : 0 < seg.length := List.length_pos_iff.2 hsne
        refine (w24 Y _ ?_ ?_ (HT.out.below HB7.out).sp).mono ?_
        · have := joinW_len seg HWK.out
          rw [Lib.size_eq, hYd]
          omega
        · intro j b hb
          rw [hYd] at hb
          rcases joinW_mem seg HWK.out b (List.mem_of_getElem? hb) with h1 | rfl
          · exact (sign_sp h1).2.1
          · decide
        rw [hYd, fields_join HWK.out]
        rintro e w9 ⟨rfl, hw9⟩
        obtain ⟨xs, hxs⟩ : ∃ xs, xs = (segs.take k).flatten.map strV := ⟨_, rfl⟩
        have HO9 : Hid (w9.ownsRow B 9 1 (.slice (some ⟨gb, 0, none⟩) cnt cap) cnt xs) := Lib.hid (by rw [hw9, hxs]; exact HO7.out.alloc _)
        obtain ⟨ns, hns⟩ : ∃ ns, ns = seg.map strV := ⟨_, rfl⟩
        have HA9 : Hid (w9.heap[A]? = some (.cells cur 9 (0, 0))) := Lib.hid (by rw [hw9, Below.heap_alloc _ _ _ (Lib.lt_of_heap HCA.out)]; exact HCA.out)
        have HL9 : Hid (w9.heap[w.heap.size]? = some (.cells (lookCells n wd p c u) 31 (0, 0))) := Lib.hid (by rw [hw9, Below.heap_alloc _ _ _ (Lib.lt_of_heap HL7.out)]; exact HL7.out)
        have HB9 : Hid (Below w.heap.size w w9) := Lib.hid (by rw [hw9]; exact HB7.out.alloc HB7.out.size _)
        have HN9 : Hid (w9.heap[w8.heap.size]? = some (.cells ((seg.map strV).toArray) 9 (0, 0))) := Lib.hid (by rw [hw9]; exact heap_alloc_new w8 _)
        have hgB : B ≤ gb := by
          rcases HO9.out.2 with ⟨hv, hn⟩ | ⟨g, cap', cur', hv, hb, hc, hn, hm, hs', ht'⟩
          · cases hv
          · injection hv with hv
            injection hv with hv
            injection hv with hv
            omega
        have HFL : Hid ((segs.take (k + 1)).flatten.map strV = xs ++ ns) := Lib.hid (by rw [hfl, List.map_append, hxs, hns])
        have HNS := Lib.hid hns
        have hcn30 : cnt + seg.length ≤ 30 := by have := HCN.out; omega
        have HCN' : Hid (cnt + seg.length = (segs.take (k + 1)).flatten.length) := Lib.hid (by rw [hfl, List.length_append, ← HCN.out])
        have lA9 := Lib.lt_of_heap HA9.out
        have lw9 := Lib.lt_of_heap HL9.out
        clear hw9 hfl hns hxs hseg hYd hY HO7 HCA HL7 HB7 q1 q2 HXD hsne
        go_wp2_with (at_builtin; refine wpList_append_lies _ rfl (.tmp 52) (.tmp 58) 33 rfl B 9 i0 (.string ⟨#[]⟩) 1 16 Tryd.underlying33 hi hz0 hz1 hz2 rfl (by decide) (.slice (some ⟨gb, 0, none⟩) cnt cap) cnt xs (by rfl) HO9.out ⟨w8.heap.size, 0, none⟩ seg.length seg.length ns (by rfl) ?hl ?hn ?h1 hl1 ?h63 ?hby ?hbase _ rfl ?_)
        case hl => rw [HNS.out, List.length_map, Nat.mul_one]
        case hn =>
          intro j u hj
          rw [Lib.addr_add, Nat.zero_add, Lib.cell_of_heap HN9.out, List.getElem?_toArray, ← HNS.out]
          exact hj
        case h1 =>
          intro u hu
          rw [HNS.out] at hu
          obtain ⟨x, _, rfl⟩ := List.mem_map.1 hu
          rfl
        case h63 => unfold maxLen; omega
        case hby => omega
        case hbase => omega
        intro g cap' w10 hown hgrow hlies _
        rw [show (Value.slice (some ⟨gb, 0, none⟩) cnt cap).ownBlock = some gb from rfl] at hgrow hlies
        have HO10 : Hid (w10.ownsRow B 9 1 (.slice (some ⟨g, 0, none⟩) (cnt + seg.length) cap') (cnt + seg.length) ((segs.take (k + 1)).flatten.map strV)) := Lib.hid (by rw [HFL.out]; exact hown)
        have HA10 : Hid (w10.heap[A]? = some (.cells cur 9 (0, 0))) := Lib.hid ((hgrow.block A lA9 (by intro e; injection e with e; exact hgA e.symm)).trans HA9.out)
        have HL10 : Hid (w10.heap[w.heap.size]? = some (.cells (lookCells n wd p c u) 31 (0, 0))) := Lib.hid ((hgrow.block _ lw9 (by intro e; injection e with e; omega)).trans HL9.out)
        have HB10 : Hid (Below w.heap.size w w10) := Lib.hid (HB9.out.grown hgrow (by omega) (by intro j e; injection e with e; omega))
        have hgA' : g ≠ A := by
          rcases hlies with h1 | h1
          · injection h1 with h1
            omega
          · omega
        clear hown hgrow hlies
        go_wp2_with fail
        go_roundg (segs.length - (k + 1))
        case measure => omega
        exact ⟨k + 1, g, cnt + seg.length, cap', by omega, rfl, rfl, hgA', hcn30, HCN', HO10, HA10, HL10, HB10⟩
      · have hke : k = segs.length := by omega
        subst hke
        have hfl := HCN.out
        rw [List.take_length, HSG.out.flat] at hfl
        have HO := HO7.out
        rw [List.take_length, HSG.out.flat] at HO
        obtain ⟨xs, hxs⟩ : ∃ xs : List ByteArray, xs = ws.map fun l => ⟨l.toArray⟩ := ⟨_, rfl⟩
        have hxl : xs.length = cnt := by rw [hxs, List.length_map, hfl]
        have hxd : xs.map (·.data.toList) = ws := by
          rw [hxs, List.map_map]
          exact List.map_id'' (fun l => rfl) ws
        have hj : Lib.join (xs.map (·.data.toList)) (⟨#[32]⟩ : ByteArray).data.toList = s.data.toList := by
          rw [hxd, show (⟨#[32]⟩ : ByteArray).data.toList = [32] from rfl, join_eq, ← HSO.out.sw.join]
        obtain ⟨jc, jb, jp⟩ : (∀ (j : Nat) x, xs[j]? = some x → wr.cell? ⟨gb, 0 + j, none⟩ = some (.string x)) ∧ gb < wr.heap.size ∧ xs.length ≤ cap := by
          rcases HO.2 with ⟨hv, hn⟩ | ⟨g, cap', cur', hv, hb, hc, hn, hm, hs', ht'⟩
          · cases hv
          · cases hv
            refine ⟨fun j x hx => ?_, Lib.lt_of_heap hc, by omega⟩
            have hjl : j < cnt := by rw [← hxl]; exact (List.getElem?_eq_some_iff.1 hx).1
            have h1 : (cur'.toList.take (cnt * 1))[j]? = some (Value.string x) := by
              rw [ht', List.getElem?_map]
              rw [hxs, List.getElem?_map] at hx
              cases hw : ws[j]? with
              | none => rw [hw] at hx; cases hx
              | some l =>
                rw [hw] at hx
                simp only [Option.map_some, Option.some.injEq] at hx ⊢
                rw [← hx]
                rfl
            rw [List.getElem?_take_of_lt (by omega), Array.getElem?_toList] at h1
            rw [Nat.zero_add, Lib.cell_of_heap hc]
            exact h1
        have J := Tryd.strings_Join gb 0 cap xs ⟨#[32]⟩ wr jc jb (by omega) jp (by rw [hj, ← Lib.size_eq]; omega)
        rw [hj, mk_toArray, hxl] at J
        have HJ := Lib.hid J
        clear J hj hxd hxl hxs HO hfl jc jb jp
        go_wp2_with fail
        refine HJ.out.mono ?_
        rintro e w11 ⟨rfl, hb11⟩
        have HB11 := Lib.hid (HB7.out.trans (hb11.mono HB7.out.size))
        clear hb11
        go_wp2_with fail
        go_ret
        exact ⟨by simp, HB11.out⟩

end Go.Proofs.YtmjeokabbmigjaaDoor
