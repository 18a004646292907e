/-
  spec.Lines walked.
-/
import Derived.Test.YtmjeokabbmigjaaDoorWd
import Derived.Test.YtmjeokabbmigjaaDoorPw
namespace Go.Proofs.YtmjeokabbmigjaaDoor
open Go.RowKit

theorem suffix_nl {l : List UInt8} (h : Lib.hasSuffix l [10] = true) : l = l.dropLast ++ [10] := by
  unfold Lib.hasSuffix at h
  rw [List.isSuffixOf_iff_suffix] at h
  obtain ⟨t, ht⟩ := h
  rw [← ht]
  simp
theorem suffix_no {l : List UInt8} (h : Lib.hasSuffix l [10] = false) : linesB l = false := by
  unfold linesB
  rw [Bool.and_eq_false_iff]
  left
  rw [beq_eq_false_iff_ne]
  intro e
  have hl : l ≠ [] := fun e2 => by rw [e2] at e; cases e
  have h2 := List.dropLast_concat_getLast hl
  rw [List.getLast?_eq_some_getLast hl] at e
  rw [Option.some.inj e] at h2
  have : Lib.hasSuffix l [10] = true := by
    unfold Lib.hasSuffix
    rw [List.isSuffixOf_iff_suffix]
    exact ⟨_, h2⟩
  rw [h] at this
  cases this

set_option maxHeartbeats 1000000 in
set_option maxRecDepth 100000 in
theorem w17_no (s : ByteArray) (w : World) (hs : s.size ≤ 2147483647) (h : Lib.hasSuffix s.data.toList [10] = false) :
    Calls Tryd.prog 17 #[.string s] w fun e w' => e = .returned (.bool (linesB s.data.toList)) ∧ Below w.heap.size w w' := by
  have hn := suffix_no h
  have c := Tryd.strings_HasSuffix s ⟨#[10]⟩ w (by omega)
  rw [show Lib.hasSuffix s.data.toList (⟨#[10]⟩ : ByteArray).data.toList = false from h] at c
  have C := Lib.hid c
  have HN := Lib.hid hn
  clear c h hn
  go_enter Tryd.func17, Tryd.ntmps17
  go_wp2_with fail
  refine C.out.mono ?_
  rintro e w1 ⟨rfl, rfl⟩
  go_wp2_with fail
  go_ret
  exact ⟨ret_bool (by rw [HN.out]), Below.refl _ _⟩

set_option maxHeartbeats 4000000 in
set_option maxRecDepth 100000 in
theorem w17_yes (s b : ByteArray) (m : Nat) (w : World) (hs : s.size ≤ 2147483647) (hm : s.size = m + 1) (hb : s.extract 0 m = b) (hbe : s.data.toList = b.data.toList ++ [10]) (hsuf : Lib.hasSuffix s.data.toList [10] = true) :
    Calls Tryd.prog 17 #[.string s] w fun e w' => e = .returned (.bool (linesB s.data.toList)) ∧ Below w.heap.size w w' := by
  have hbs : b.size ≤ 2147483647 := by
    have h1 := congrArg List.length hbe
    rw [List.length_append, ← Lib.size_eq, ← Lib.size_eq] at h1
    simp only [List.length_cons, List.length_nil] at h1
    omega
  have hn1 := splitL_length 10 b.data.toList
  rw [← Lib.size_eq] at hn1
  have hsz := splitL_size 10 b.data.toList
  have hlines : linesB s.data.toList = ((splitL 10 b.data.toList).all wordsB && (splitL 10 b.data.toList).length ≤ 6) := by
    unfold linesB
    rw [hbe, List.dropLast_concat]
    simp
  generalize hps : splitL 10 b.data.toList = ps at hn1 hsz hlines
  have c := fun w => Tryd.strings_HasSuffix s ⟨#[10]⟩ w (by omega)
  have hsuf' : Lib.hasSuffix s.data.toList (⟨#[10]⟩ : ByteArray).data.toList = true := hsuf
  rw [hsuf'] at c
  have C := Lib.hid c
  have HSZ := Lib.hid hsz
  have HP := Lib.hid hps
  have HL := Lib.hid hlines
  have HB0 := Lib.hid hb
  have HM := Lib.hid hm
  clear hps hsz hlines c hsuf hsuf' hb hbe
  go_enter Tryd.func17, Tryd.ntmps17
  go_wp2_with fail
  refine (C.out _).mono ?_
  rintro e w1 ⟨rfl, rfl⟩
  go_wp2_with fail
  rw [HB0.out]
  refine (w19 b 10 _ (by omega)).mono ?_
  rw [HP.out]
  rintro e w1 ⟨A, cap, rfl, hown, hb⟩
  have HO := Lib.hid hown
  have HB := Lib.hid hb
  clear hown hb
  go_wp2_with fail
  go_loopg [17] ps.length (fun g i wr => ∃ k : Nat, i = .int .i64 k ∧ k + g = ps.length ∧ Hid ((ps.take k).all wordsB = true) ∧ Hid (Below w1.heap.size w1 wr))
  case atStart => exact ⟨0, rfl, by omega, Lib.hid (by simp), Lib.hid (Below.refl _ _)⟩
  case round =>
    obtain ⟨k, rfl, hk, hal, KB⟩ := hrel
    have hszr := KB.out.size
    have hszw := HB.out.size
    by_cases hlt : k < ps.length
    · have c0 := strs_cell HO.out k hlt
      obtain ⟨x, hx, hxd⟩ := strV_eq ps[k]
      rw [hx] at c0
      have c1 : wr.cell? ⟨A, k, none⟩ = some (.string x) := (KB.out.cell (p := ⟨A, k, none⟩) (cell_lt c0)).trans c0
      have hxs : x.size ≤ 2147483647 := by
        have := HSZ.out ps[k] (List.getElem_mem hlt)
        rw [Lib.size_eq, hxd]; rw [← Lib.size_eq] at this; omega
      have HX := Lib.hid hxd
      clear hxd hx c0
      go_wp2_with fail
      refine (w26 x wr hxs).mono ?_
      rintro e w2 ⟨rfl, hb2⟩
      have KB2 := Lib.hid (KB.out.trans (hb2.mono hszr))
      clear hb2
      cases hlow : wordsB x.data.toList with
      | true =>
        have hst : (ps.take (k + 1)).all wordsB = true := by
          rw [List.take_succ_eq_append_getElem hlt, List.all_append, hal.out, ← HX.out]
          simp [hlow]
        have HST := Lib.hid hst
        clear hst hlow
        go_wp2_with fail
        go_roundg (ps.length - (k + 1))
        case measure => omega
        case rel => exact ⟨k + 1, by go_num, by omega, HST, KB2⟩
      | false =>
        have hno : linesB s.data.toList = false := by
          rw [HL.out, Bool.and_eq_false_iff]
          left
          rw [List.all_eq_false]
          exact ⟨ps[k], List.getElem_mem hlt, by rw [← HX.out, hlow]; simp⟩
        have HNO := Lib.hid hno
        clear hno hlow
        go_wp2_with fail
        go_ret
        exact ⟨ret_bool (by rw [HNO.out]), HB.out.trans (KB2.out.mono hszw)⟩
    · have hfin : ps.all wordsB = true := by
        have := hal.out
        rwa [List.take_of_length_le (by omega)] at this
      by_cases h6 : (ps.length : Int) ≤ 6
      · have hw : Hid (linesB s.data.toList = true) := Lib.hid (by rw [HL.out, hfin]; simp; omega)
        clear hfin hal
        go_wp2_with fail
        go_ret
        refine ⟨ret_bool ?_, HB.out.trans (KB.out.mono hszw)⟩
        rw [hw.out]
      · have hw : Hid (linesB s.data.toList = false) := Lib.hid (by rw [HL.out, hfin]; simp; omega)
        clear hfin hal
        go_wp2_with fail
        go_ret
        refine ⟨ret_bool ?_, HB.out.trans (KB.out.mono hszw)⟩
        rw [hw.out]

theorem w17 (s : ByteArray) (w : World) (hs : s.size ≤ 2147483647) :
    Calls Tryd.prog 17 #[.string s] w fun e w' => e = .returned (.bool (linesB s.data.toList)) ∧ Below w.heap.size w w' := by
  cases h : Lib.hasSuffix s.data.toList [10] with
  | false => exact w17_no s w hs h
  | true =>
    have h1 := suffix_nl h
    have hm : s.size = (s.size - 1) + 1 := by
      have := congrArg List.length h1
      rw [List.length_append, ← Lib.size_eq] at this
      simp at this
      omega
    refine w17_yes s _ (s.size - 1) w hs hm rfl ?_ h
    rw [ex_data]
    simp only [List.drop_zero, Nat.sub_zero]
    conv => lhs; rw [h1]
    congr 1
    rw [List.dropLast_eq_take, ← Lib.size_eq]

end Go.Proofs.YtmjeokabbmigjaaDoor
