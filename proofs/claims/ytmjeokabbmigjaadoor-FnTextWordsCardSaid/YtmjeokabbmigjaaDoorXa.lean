/-
  The law FnTextWords: Sentence and Broken walked, and the law's small ways.
-/
import Derived.Test.YtmjeokabbmigjaaDoorTm
import Derived.Test.YtmjeokabbmigjaaDoorVp
set_option linter.unusedVariables false
set_option linter.unusedSimpArgs false
namespace Go.Proofs.YtmjeokabbmigjaaDoor
open Go.RowKit

theorem suffix_dot {l : List UInt8} (h : Lib.hasSuffix l [46] = true) : l = l.dropLast ++ [46] := by
  unfold Lib.hasSuffix at h
  rw [List.isSuffixOf_iff_suffix] at h
  obtain ⟨t, ht⟩ := h
  rw [← ht]
  simp
theorem nodot {l : List UInt8} (h : Lib.hasSuffix l [46] = false) : sentB l = false := by
  unfold sentB
  rw [Bool.and_eq_false_iff]
  left
  rw [beq_eq_false_iff_ne]
  intro e
  have hl : l ≠ [] := fun e2 => by rw [e2] at e; cases e
  have h2 := List.dropLast_concat_getLast hl
  rw [List.getLast?_eq_some_getLast hl] at e
  rw [Option.some.inj e] at h2
  have : Lib.hasSuffix l [46] = true := by
    unfold Lib.hasSuffix
    rw [List.isSuffixOf_iff_suffix]
    exact ⟨_, h2⟩
  rw [h] at this
  cases this

set_option maxHeartbeats 1000000 in
set_option maxRecDepth 100000 in
theorem w21_no (s : ByteArray) (w : World) (hs : s.size ≤ 2147483647) (h : Lib.hasSuffix s.data.toList [46] = false) :
    Calls Tryd.prog 21 #[.string s] w fun e w' => e = .returned (.bool (sentB s.data.toList)) ∧ Below w.heap.size w w' := by
  have c := Tryd.strings_HasSuffix s ⟨#[46]⟩ w (by omega)
  rw [show Lib.hasSuffix s.data.toList (⟨#[46]⟩ : ByteArray).data.toList = false from h] at c
  have C := Lib.hid c
  have HN := Lib.hid (nodot h)
  clear c h
  go_enter Tryd.func21, Tryd.ntmps21
  go_wp2_with fail
  refine C.out.mono ?_
  rintro e w1 ⟨rfl, rfl⟩
  go_wp2_with fail
  go_ret
  exact ⟨ret_bool (by rw [HN.out]), Below.refl _ _⟩

set_option maxHeartbeats 1000000 in
set_option maxRecDepth 100000 in
theorem w21_yes (s b : ByteArray) (m : Nat) (w : World) (hs : s.size ≤ 2147483647) (hm : s.size = m + 1) (hb : s.extract 0 m = b) (hbe : s.data.toList = b.data.toList ++ [46]) (h : Lib.hasSuffix s.data.toList [46] = true) :
    Calls Tryd.prog 21 #[.string s] w fun e w' => e = .returned (.bool (sentB s.data.toList)) ∧ Below w.heap.size w w' := by
  have hbs : b.size ≤ 2147483647 := by
    have h1 := congrArg List.length hbe
    rw [List.length_append, ← Lib.size_eq, ← Lib.size_eq] at h1
    simp only [List.length_cons, List.length_nil] at h1
    omega
  have hse : sentB s.data.toList = wordsB b.data.toList := by
    unfold sentB
    rw [hbe, List.dropLast_concat]
    simp
  have c := Tryd.strings_HasSuffix s ⟨#[46]⟩ w (by omega)
  rw [show Lib.hasSuffix s.data.toList (⟨#[46]⟩ : ByteArray).data.toList = true from h] at c
  have C := Lib.hid c
  have HSE := Lib.hid hse
  have HB0 := Lib.hid hb
  have C26 := Lib.hid (w26 b w hbs)
  clear c h hse hb hbe
  go_enter Tryd.func21, Tryd.ntmps21
  go_wp2_with fail
  refine C.out.mono ?_
  rintro e w1 ⟨rfl, rfl⟩
  go_wp2_with fail
  rw [HB0.out]
  refine C26.out.mono ?_
  rintro e w2 ⟨rfl, hb2⟩
  have HB2 := Lib.hid hb2
  clear hb2
  go_wp2_with fail
  go_ret
  exact ⟨ret_bool (by rw [HSE.out]), HB2.out⟩

theorem w21 (s : ByteArray) (w : World) (hs : s.size ≤ 2147483647) :
    Calls Tryd.prog 21 #[.string s] w fun e w' => e = .returned (.bool (sentB s.data.toList)) ∧ Below w.heap.size w w' := by
  cases h : Lib.hasSuffix s.data.toList [46] with
  | false => exact w21_no s w hs h
  | true =>
    have h1 := suffix_dot h
    have h2 := congrArg List.length h1
    rw [List.length_append, ← Lib.size_eq] at h2
    refine w21_yes s (s.extract 0 (s.data.toList.dropLast.length)) (s.data.toList.dropLast.length) w hs (by simpa using h2) rfl ?_ h
    rw [ex_data, List.drop_zero, Nat.sub_zero]
    conv => lhs; rw [h1]
    congr 1
    conv => rhs; rw [h1]
    rw [List.dropLast_concat, List.take_left]

set_option maxHeartbeats 400000 in
theorem w24 (s : ByteArray) (w : World) (hs : s.size ≤ 100000) (hasc : ∀ (j : Nat) b, s.data.toList[j]? = some b → b.toNat < 128) (ht : Lib.TabIs Tryd.prog w "strings.asciiSpace" .u8 Lib.asciiSpaceTab) :
    Calls Tryd.prog 24 #[.string s] w fun e w' =>
      e = .returned (.slice (some ⟨w.heap.size, 0, none⟩) (Lib.fields s.data.toList).length (Lib.fields s.data.toList).length) ∧ w' = w.alloc (.cells ((Lib.fields s.data.toList).map fun l => Value.string ⟨l.toArray⟩).toArray 9) := by
  have C := Lib.hid (Tryd.strings_Fields s w (by omega) hasc ht)
  clear hasc ht
  go_enter Tryd.func24, Tryd.ntmps24
  go_wp2_with fail
  refine C.out.mono ?_
  rintro e w1 ⟨rfl, rfl⟩
  go_wp2_with fail
  go_ret
  exact ⟨rfl, rfl⟩

section
variable (n wd : Int) (p c u s : ByteArray) (w : World)

set_option maxHeartbeats 1000000 in
set_option maxRecDepth 100000 in
theorem w6_unfit (h : fitsB p c u = false) : Calls Tryd.prog 6 #[.agg (lookCells n wd p c u), .string s] w (LawPost w) := by
  have c16 := fun w => w16 n wd p c u w
  unfold fitsB at h
  rw [h] at c16
  have C := Lib.hid c16
  clear c16 h
  unfold lookCells at C ⊢
  go_enter Tryd.func6, Tryd.ntmps6
  go_wp2_with fail
  refine (C.out _).mono ?_
  rintro e w1 ⟨rfl, rfl⟩
  go_wp2_with fail
  go_ret
  exact ⟨rfl, ((Below.refl _ w).alloc (Nat.le_refl _) _).alloc (by simp) _⟩

set_option maxHeartbeats 1000000 in
set_option maxRecDepth 100000 in
theorem w6_big (h : fitsB p c u = true) (hs : 2147483647 < s.size) : Calls Tryd.prog 6 #[.agg (lookCells n wd p c u), .string s] w (LawPost w) := by
  have c16 := fun w => w16 n wd p c u w
  unfold fitsB at h
  rw [h] at c16
  have C := Lib.hid c16
  clear c16 h
  unfold lookCells at C ⊢
  go_enter Tryd.func6, Tryd.ntmps6
  go_wp2_with fail
  refine (C.out _).mono ?_
  rintro e w1 ⟨rfl, rfl⟩
  go_wp2_with fail
  go_ret
  exact ⟨rfl, ((Below.refl _ w).alloc (Nat.le_refl _) _).alloc (by simp) _⟩

set_option maxHeartbeats 1000000 in
set_option maxRecDepth 100000 in
theorem w6_nosent (h : fitsB p c u = true) (hs : s.size ≤ 2147483647) (hw : sentB s.data.toList = false) : Calls Tryd.prog 6 #[.agg (lookCells n wd p c u), .string s] w (LawPost w) := by
  have c16 := fun w => w16 n wd p c u w
  unfold fitsB at h
  rw [h] at c16
  have c21 := fun w => w21 s w hs
  rw [hw] at c21
  have C := Lib.hid c16
  have C21 := Lib.hid c21
  clear c16 h c21 hw
  unfold lookCells at C ⊢
  go_enter Tryd.func6, Tryd.ntmps6
  go_wp2_with fail
  refine (C.out _).mono ?_
  rintro e w1 ⟨rfl, rfl⟩
  go_wp2_with fail
  refine (C21.out _).mono ?_
  rintro e w2 ⟨rfl, hb⟩
  have HB : Hid (Below w.heap.size w w2) := Lib.hid ((((Below.refl _ w).alloc (Nat.le_refl _) _).alloc (by simp) _).trans (hb.mono (by simp; omega)))
  clear hb
  go_wp2_with fail
  go_ret
  exact ⟨rfl, HB.out⟩
end

section
variable (n wd : Int) (p c u s : ByteArray) (w : World)

set_option maxHeartbeats 2000000 in
set_option maxRecDepth 100000 in
theorem w6_any (h : fitsB p c u = true) (hs : s.size ≤ 2147483647) (hw : sentB s.data.toList = true) (r : Bool) (ha : anyB p.data.toList [10] = r) (hr : r = false → 50 < p.size) : Calls Tryd.prog 6 #[.agg (lookCells n wd p c u), .string s] w (LawPost w) := by
  obtain ⟨hp1, hc1, _⟩ := fits_parts h
  have c16 := fun w => w16 n wd p c u w
  unfold fitsB at h
  rw [h] at c16
  have c21 := fun w => w21 s w hs
  rw [hw] at c21
  have hpc : p.size ≤ 8589934592 := by omega
  have c18 := fun w => w18 p ⟨#[10]⟩ w hpc (by decide)
  rw [show anyB p.data.toList (⟨#[10]⟩ : ByteArray).data.toList = r from ha] at c18
  have C := Lib.hid c16
  have C21 := Lib.hid c21
  have C18 := Lib.hid c18
  clear c16 h c21 hw c18 ha hpc
  unfold lookCells at C ⊢
  go_enter Tryd.func6, Tryd.ntmps6
  go_wp2_with fail
  refine (C.out _).mono ?_
  rintro e w1 ⟨rfl, rfl⟩
  go_wp2_with fail
  refine (C21.out _).mono ?_
  rintro e w2 ⟨rfl, hb⟩
  have HB : Hid (Below w.heap.size w w2) := Lib.hid ((((Below.refl _ w).alloc (Nat.le_refl _) _).alloc (by simp) _).trans (hb.mono (by simp; omega)))
  have l0 : w.heap.size < w2.heap.size := by have := hb.size; simp at this; omega
  have H0 : Hid (w2.heap[w.heap.size]? = some (.cells (lookCells n wd p c u) 31 (0, 0))) := Lib.hid (by
    rw [hb.block _ (by simp; omega), Below.heap_alloc _ _ _ (by simp)]
    exact heap_alloc_new w _)
  have q1 : w2.cell? ⟨w.heap.size, 1, none⟩ = some (.string p) := Lib.cell_of_heap H0.out 1
  have q2 : w2.cell? ⟨w.heap.size, 2, none⟩ = some (.string c) := Lib.cell_of_heap H0.out 2
  clear hb
  go_wp2_with fail
  refine (C18.out _).mono ?_
  rintro e w3 ⟨rfl, hb3⟩
  have r1 : w3.cell? ⟨w.heap.size, 1, none⟩ = some (.string p) := (hb3.cell (p := ⟨w.heap.size, 1, none⟩) l0).trans q1
  have r2 : w3.cell? ⟨w.heap.size, 2, none⟩ = some (.string c) := (hb3.cell (p := ⟨w.heap.size, 2, none⟩) l0).trans q2
  have HB3 : Hid (Below w.heap.size w w3) := Lib.hid (HB.out.trans (hb3.mono (by omega)))
  clear hb3
  cases r with
  | true =>
    go_wp2_with fail
    go_ret
    exact ⟨rfl, HB3.out⟩
  | false =>
    have h100 := hr rfl
    have h101 : (50 : Int) < (p.size : Int) := by omega
    go_wp2_with fail
    go_ret
    exact ⟨rfl, HB3.out⟩
end

end Go.Proofs.YtmjeokabbmigjaaDoor
