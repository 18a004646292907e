/-
  The law FnHeadingID, walked.
-/
import Derived.Test.YtmjeokabbmigjaaDoorHd
namespace Go.Proofs.YtmjeokabbmigjaaDoor
open Go.RowKit

def LawPost (w : World) (e : Ending) (w' : World) : Prop := e = .returned (.bool true) ∧ Below w.heap.size w w'

set_option maxHeartbeats 400000 in
theorem w4_big (s : ByteArray) (w : World) (h : 300 < s.size) : Calls Tryd.prog 4 #[.string s] w (LawPost w) := by
  by_cases h2 : 2147483647 < s.size
  · go_enter Tryd.func4, Tryd.ntmps4
    go_wp2_with fail
    go_ret
    exact ⟨rfl, Below.refl _ _⟩
  · go_enter Tryd.func4, Tryd.ntmps4
    go_wp2_with fail
    go_ret
    exact ⟨rfl, Below.refl _ _⟩

set_option maxHeartbeats 400000 in
theorem w4_trim (s : ByteArray) (w : World) (ht : Tabs w) (h : s.size ≤ 300) (hne : Lib.trimSpaceD s.data.toList ≠ s.data.toList) : Calls Tryd.prog 4 #[.string s] w (LawPost w) := by
  have HT := Lib.hid ht
  have hb : ((Lib.trimSpaceD s.data.toList).toArray.toList == s.data.toList) = false := by
    rw [beq_eq_false_iff_ne]; simpa using hne
  obtain ⟨X, hX⟩ : ∃ X : ByteArray, ⟨(Lib.trimSpaceD s.data.toList).toArray⟩ = X := ⟨_, rfl⟩
  have HX := Lib.hid hX
  have hb2 : (X.toList == s.toList) = false := by
    rw [Lib.toList_data, Lib.toList_data, ← hX]; exact hb
  clear ht hne hb hX
  go_enter Tryd.func4, Tryd.ntmps4
  go_wp2_with fail
  refine (Tryd.strings_TrimSpace_any s w (by omega) HT.out.sp HT.out.u8 HT.out.ws).mono ?_
  rw [HX.out]
  rintro e w1 ⟨rfl, hb1⟩
  go_wp2_with fail
  go_ret
  exact ⟨rfl, hb1⟩

set_option maxHeartbeats 400000 in
theorem w4_empty (s : ByteArray) (w : World) (ht : Tabs w) (h : s.data.toList = []) : Calls Tryd.prog 4 #[.string s] w (LawPost w) := by
  have HT := Lib.hid ht
  obtain rfl : s = ⟨#[]⟩ := by
    obtain ⟨⟨l⟩⟩ := s
    simp at h
    rw [h]
  clear ht h
  go_enter Tryd.func4, Tryd.ntmps4
  go_wp2_with fail
  refine (w12 _ w HT.out (by decide) (by decide)).mono ?_
  rintro e w1 ⟨rfl, hb1⟩
  go_wp2_with fail
  go_ret
  exact ⟨rfl, hb1⟩

set_option maxHeartbeats 2000000 in
set_option maxRecDepth 100000 in
theorem w4_main (s : ByteArray) (w : World) (ht : Tabs w) (h : s.size ≤ 300) (hs0 : s.data.toList ≠ []) (htrim : Lib.trimSpaceD s.data.toList = s.data.toList) : Calls Tryd.prog 4 #[.string s] w (LawPost w) := by
  have HT := Lib.hid ht
  have HTR := Lib.hid htrim
  have hne : s.toList.isEmpty = false := by
    rw [Lib.toList_data]
    cases h : s.data.toList with
    | nil => exact (hs0 h).elim
    | cons x r => rfl
  clear ht htrim
  go_enter Tryd.func4, Tryd.ntmps4
  go_wp2_with fail
  refine (w12 _ w HT.out (by omega) HTR.out).mono ?_
  rintro e w1 ⟨rfl, hb1⟩
  have HB1 := Lib.hid hb1
  have hsz1 := hb1.size
  clear hb1
  go_wp2_with fail
  go_loop [3] (fun i => ∃ k : Nat, i = .int .i64 k ∧ k ≤ s.size ∧ Hid (∀ j (h : j < s.size), j < k → (s[j]'h).toNat < 128)) (fun i => s.size - (intOf i).toNat)
  case atStart => exact ⟨0, rfl, Nat.zero_le _, Lib.hid (fun j _ hj => by omega)⟩
  case round =>
    obtain ⟨k, rfl, hk, hasc⟩ := hrel
    by_cases hlt : k < s.size
    · by_cases hlo : (s[k].toNat : Int) < 32
      · go_wp2_with fail
        go_ret
        exact ⟨rfl, HB1.out⟩
      · by_cases hhi : 126 < (s[k].toNat : Int)
        · go_wp2_with fail
          go_ret
          exact ⟨rfl, HB1.out⟩
        · go_wp2_with fail
          go_round
          case rel =>
            refine ⟨k + 1, by go_num, by omega, Lib.hid ?_⟩
            intro j hj hjk
            by_cases e : j = k
            · subst e; omega
            · exact hasc.out j hj (by omega)
          case measure => simp [intOf]; omega
    · have HASC : Hid (∀ j (h : j < s.size), (s[j]'h).toNat < 128) := Lib.hid (fun j hj => hasc.out j hj (by omega))
      go_wp2_with fail
      refine (w14 s w1).mono ?_
      rintro e w2 ⟨rfl, rfl⟩
      go_wp2_with fail
      refine (w13 _ s _ (heap_alloc_new w1 _) (HT.out.below (HB1.out.alloc (by omega) _)) hs0 (by omega) HASC.out HTR.out).mono ?_
      rintro e w3 ⟨rfl, hb3⟩
      have HB3 := Lib.hid ((HB1.out.alloc (by omega) (.cells (spanCells s) 61)).trans (hb3.mono (by simp; omega)))
      have hsz3 := hb3.size
      clear hb3
      go_wp2_with fail
      refine (w15 s w3 (by omega) HASC.out).mono ?_
      rintro e w4 ⟨rfl, hb4⟩
      have HB4 := Lib.hid (HB3.out.trans (hb4.mono (by simp at hsz3; omega)))
      clear hb4
      go_wp2_with fail
      go_ret
      exact ⟨by simp, HB4.out⟩

theorem w4 (s : ByteArray) (w : World) (ht : Tabs w) : Calls Tryd.prog 4 #[.string s] w (LawPost w) := by
  by_cases h : 300 < s.size
  · exact w4_big s w h
  · by_cases h0 : s.data.toList = []
    · exact w4_empty s w ht h0
    · by_cases ht2 : Lib.trimSpaceD s.data.toList = s.data.toList
      · exact w4_main s w ht (by omega) h0 ht2
      · exact w4_trim s w ht (by omega) ht2

end Go.Proofs.YtmjeokabbmigjaaDoor
