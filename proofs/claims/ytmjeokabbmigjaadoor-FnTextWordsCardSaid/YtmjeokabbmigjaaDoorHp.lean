/-
  The law FnHTMLPlain, walked.
-/
import Derived.Test.YtmjeokabbmigjaaDoorIm
import Derived.Test.YtmjeokabbmigjaaDoorAn
import Derived.Test.YtmjeokabbmigjaaDoorHl
namespace Go.Proofs.YtmjeokabbmigjaaDoor
open Go.RowKit

def paraL (s : ByteArray) : List UInt8 := [] ++ [60, 112, 62] ++ escL htmlE s.data.toList ++ [10]

theorem paraL_free (s : ByteArray) : anyB (escL htmlE s.data.toList ++ [10]) [60, 62] = false := by
  have key : ∀ c d : UInt8, d ∈ (htmlE c).getD [c] → d ≠ 60 ∧ d ≠ 62 := by
    intro c d hd
    unfold htmlE at hd
    repeat' split at hd
    all_goals first
      | (simp at hd; rcases hd with rfl | rfl | rfl | rfl | rfl | rfl <;> decide)
      | (simp at hd; rcases hd with rfl | rfl | rfl | rfl | rfl <;> decide)
      | (simp at hd; rcases hd with rfl | rfl | rfl | rfl <;> decide)
      | (simp at hd; subst hd; exact ⟨by assumption, by assumption⟩)
  unfold anyB
  rw [List.any_eq_false]
  intro d hd
  rw [Bool.not_eq_true, List.any_eq_false]
  have hne : d ≠ 60 ∧ d ≠ 62 := by
    rcases List.mem_append.1 hd with h | h
    · unfold escL at h
      obtain ⟨c, _, h2⟩ := List.mem_flatMap.1 h
      exact key c d h2
    · simp at h; subst h; decide
  intro x hx
  simp at hx
  rcases hx with rfl | rfl
  · simpa using hne.1
  · simpa using hne.2

theorem para27 (n wd : Int) (p c u : ByteArray) (k j : Nat) (s : ByteArray) (w : World) (hs : s.size ≤ 1000000) (hk : w.heap[k]? = some (.cells (blkCells 1 j) 38 (0, 0))) (hj : w.heap[j]? = some (.cells (spanCells s) 61 (0, 0))) :
    Calls Tryd.prog 27 #[.agg (lookCells n wd p c u), .agg #[.slice (some ⟨k, 0, none⟩) 1 1, .slice none 0 0]] w fun e w' => e = .returned (.string ⟨(paraL s).toArray⟩) ∧ Below w.heap.size w w' := by
  refine w27 (T := 122) (T' := 123) (s := s) n wd p c u k w (by simp [paraL]) ?_ ?_
  · intro w' hb
    exact w41p k j s w' ((hb.block k (Lib.lt_of_heap hk)).trans hk) ((hb.block j (Lib.lt_of_heap hj)).trans hj)
  · intro w' pb db hb hp hd
    obtain ⟨cb, ccap, ccs, xb, A, cap, h1, h2, h3, h4, h5⟩ := hd
    refine w49 pb db cb ccap ccs _ (paraL s) h1 h2 h3 ?_
    intro w1 g1 g2 g3 g4
    exact w74p w'.heap.size xb A cap _ s g2 g1 ((g3.block xb (Lib.lt_of_heap h4)).trans h4) (h5.carry fun k hk => g3.block k hk) (by have := Lib.lt_of_heap h4; omega) (by have := h5.lt; omega) g4 (by simp; omega)

theorem cutP (s : ByteArray) (w : World) : Calls Tryd.prog 29 #[.string ⟨(paraL s).toArray⟩, .string ⟨#[60, 112, 62]⟩] w fun e w' => e = .returned (.tuple #[.string ⟨(escL htmlE s.data.toList ++ [10]).toArray⟩, .bool true]) ∧ w' = w := by
  have e0 : paraL s = [60, 112, 62] ++ (escL htmlE s.data.toList ++ [10]) := by simp [paraL]
  have e1 : Lib.hasPrefix (paraL s) [60, 112, 62] = true := by
    rw [e0]; simp [Lib.hasPrefix]
  have e2 : Lib.trimPrefix (paraL s) [60, 112, 62] = escL htmlE s.data.toList ++ [10] := by
    unfold Lib.trimPrefix
    rw [if_pos e1, e0]
    simp
  refine (Tryd.strings_CutPrefix ⟨(paraL s).toArray⟩ ⟨#[60, 112, 62]⟩ w).mono ?_
  rintro e w' ⟨rfl, rfl⟩
  refine ⟨?_, rfl⟩
  show Ending.returned (.tuple #[.string ⟨(Lib.trimPrefix (paraL s) [60, 112, 62]).toArray⟩, .bool (Lib.hasPrefix (paraL s) [60, 112, 62])]) = _
  rw [e1, e2]

theorem anyP (s : ByteArray) (w : World) (hs : s.size ≤ 300) : Calls Tryd.prog 18 #[.string ⟨(escL htmlE s.data.toList ++ [10]).toArray⟩, .string ⟨#[60, 62]⟩] w fun e w' => e = .returned (.bool false) ∧ Below w.heap.size w w' := by
  have hl : (escL htmlE s.data.toList ++ [10]).length ≤ 8589934592 := by
    have := escL_len htmlE_len s.data.toList
    rw [← Lib.size_eq] at this
    rw [List.length_append]
    simp only [List.length_cons, List.length_nil]
    omega
  obtain ⟨R, hR⟩ : ∃ R : ByteArray, R = ⟨(escL htmlE s.data.toList ++ [10]).toArray⟩ := ⟨_, rfl⟩
  have hl2 : R.size ≤ 8589934592 := by rw [Lib.size_eq, hR]; exact hl
  have hf : anyB R.data.toList (⟨#[60, 62]⟩ : ByteArray).data.toList = false := by rw [hR]; exact paraL_free s
  rw [← hR]
  refine (w18 R ⟨#[60, 62]⟩ w hl2 (by decide)).mono ?_
  rintro e w' ⟨rfl, hb⟩
  exact ⟨ret_bool hf, hb⟩

set_option maxHeartbeats 400000 in
theorem w8_big (s : ByteArray) (w : World) (h : 300 < s.size) : Calls Tryd.prog 8 #[.string s] w (LawPost w) := by
  by_cases h2 : 2147483647 < s.size
  · go_enter Tryd.func8, Tryd.ntmps8
    go_wp2_with fail
    go_ret
    exact ⟨rfl, Below.refl _ _⟩
  · go_enter Tryd.func8, Tryd.ntmps8
    go_wp2_with fail
    go_ret
    exact ⟨rfl, Below.refl _ _⟩

set_option maxHeartbeats 400000 in
theorem w8_any (s : ByteArray) (w : World) (h : s.size ≤ 300) (ha : anyB s.data.toList [10, 13] = true) : Calls Tryd.prog 8 #[.string s] w (LawPost w) := by
  have c := w18 s ⟨#[10, 13]⟩ w (by omega) (by decide)
  rw [show anyB s.data.toList (⟨#[10, 13]⟩ : ByteArray).data.toList = true from ha] at c
  have C := Lib.hid c
  clear c ha
  go_enter Tryd.func8, Tryd.ntmps8
  go_wp2_with fail
  refine C.out.mono ?_
  rintro e w1 ⟨rfl, hb1⟩
  go_wp2_with fail
  go_ret
  exact ⟨rfl, hb1⟩

set_option maxHeartbeats 400000 in
theorem w8_empty (w : World) : Calls Tryd.prog 8 #[.string ⟨#[]⟩] w (LawPost w) := by
  have c := w18 ⟨#[]⟩ ⟨#[10, 13]⟩ w (by decide) (by decide)
  rw [show anyB (⟨#[]⟩ : ByteArray).data.toList (⟨#[10, 13]⟩ : ByteArray).data.toList = false from rfl] at c
  have C := Lib.hid c
  clear c
  go_enter Tryd.func8, Tryd.ntmps8
  go_wp2_with fail
  refine C.out.mono ?_
  rintro e w1 ⟨rfl, hb1⟩
  go_wp2_with fail
  go_ret
  exact ⟨rfl, hb1⟩

set_option maxHeartbeats 2000000 in
set_option maxRecDepth 100000 in
theorem w8_main (s : ByteArray) (w : World) (h : s.size ≤ 300) (hs0 : s.data.toList ≠ []) (ha : anyB s.data.toList [10, 13] = false) : Calls Tryd.prog 8 #[.string s] w (LawPost w) := by
  have c := w18 s ⟨#[10, 13]⟩ w (by omega) (by decide)
  rw [show anyB s.data.toList (⟨#[10, 13]⟩ : ByteArray).data.toList = false from ha] at c
  have C := Lib.hid c
  have hne : s.toList.isEmpty = false := by
    rw [Lib.toList_data]
    cases h : s.data.toList with
    | nil => exact (hs0 h).elim
    | cons x r => rfl
  clear c ha
  go_enter Tryd.func8, Tryd.ntmps8
  go_wp2_with fail
  refine C.out.mono ?_
  rintro e w1 ⟨rfl, hb1⟩
  have HB1 := Lib.hid hb1
  have hsz1 := hb1.size
  clear hb1
  go_wp2_with fail
  go_loop [3] (fun i => ∃ k : Nat, i = .int .i64 k ∧ k ≤ s.size) (fun i => s.size - (intOf i).toNat)
  case atStart => exact ⟨0, rfl, Nat.zero_le _⟩
  case round =>
    obtain ⟨k, rfl, hk⟩ := hrel
    by_cases hlt : k < s.size
    · by_cases hlo : (s[k].toNat : Int) < 32
      · go_wp2_with fail
        go_ret
        exact ⟨rfl, HB1.out⟩
      · by_cases hhi : 126 < (s[k].toNat : Int)
        · go_wp2_with fail
          go_ret
          exact ⟨rfl, HB1.out⟩
        · go_wp2_with fail
          go_round
          case rel => exact ⟨k + 1, by go_num, by omega⟩
          case measure => simp [intOf]; omega
    · go_wp2_with fail
      refine (w14 s w1).mono ?_
      rintro e w2 ⟨rfl, rfl⟩
      go_wp2_with fail
      obtain ⟨w2, hw2⟩ : ∃ w2, w2 = (w1.alloc (.cells (spanCells s) 61)).alloc (.cells (blkCells 1 w1.heap.size) 38) := ⟨_, rfl⟩
      have hk2 : w2.heap[w1.heap.size + 1]? = some (.cells (blkCells 1 w1.heap.size) 38 (0, 0)) := by
        rw [hw2]
        have := heap_alloc_new (w1.alloc (.cells (spanCells s) 61)) (.cells (blkCells 1 w1.heap.size) 38)
        simpa using this
      have hj2 : w2.heap[w1.heap.size]? = some (.cells (spanCells s) 61 (0, 0)) := by
        rw [hw2, Below.heap_alloc _ _ _ (by simp)]
        exact heap_alloc_new w1 _
      have HB2 : Hid (Below w.heap.size w w2) := Lib.hid (by rw [hw2]; exact ((HB1.out.alloc hsz1 _).alloc (by simp; omega) _))
      have hsz2 : w.heap.size ≤ w2.heap.size := HB2.out.size
      have C2 := Lib.hid (para27 0 0 ⟨#[]⟩ ⟨#[]⟩ ⟨#[]⟩ (w1.heap.size + 1) w1.heap.size s w2 (by omega) hk2 hj2)
      clear hk2 hj2
      unfold blkCells at hw2
      rw [← hw2]
      clear hw2
      refine C2.out.mono ?_
      rintro e w3 ⟨rfl, hb3⟩
      have HB3 := Lib.hid (HB2.out.trans (hb3.mono hsz2))
      have hsz3 := HB3.out.size
      clear hb3
      have c3 := cutP s w3
      have c4 := anyP s w3 (by omega)
      have C3 := Lib.hid c3
      have C4 := Lib.hid c4
      clear c3 c4
      go_wp2_with fail
      refine C3.out.mono ?_
      rintro e w3' ⟨rfl, rfl⟩
      go_wp2_with fail
      refine C4.out.mono ?_
      rintro e w4 ⟨rfl, hb4⟩
      have HB4 := Lib.hid (HB3.out.trans (hb4.mono hsz3))
      clear hb4
      go_wp2_with fail
      go_ret
      exact ⟨rfl, HB4.out⟩

theorem w8 (s : ByteArray) (w : World) : Calls Tryd.prog 8 #[.string s] w (LawPost w) := by
  by_cases h : 300 < s.size
  · exact w8_big s w h
  · by_cases h0 : s.data.toList = []
    · obtain rfl : s = ⟨#[]⟩ := by
        obtain ⟨⟨l⟩⟩ := s
        simp at h0
        rw [h0]
      exact w8_empty w
    · cases ha : anyB s.data.toList [10, 13] with
      | true => exact w8_any s w (by omega) ha
      | false => exact w8_main s w (by omega) h0 ha

end Go.Proofs.YtmjeokabbmigjaaDoor
