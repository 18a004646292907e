/-
  spec.Words, spec.Level and the size test on a Look, walked.
-/
import Derived.Test.YtmjeokabbmigjaaDoorAn
import Derived.Test.YtmjeokabbmigjaaDoorHm
namespace Go.Proofs.YtmjeokabbmigjaaDoor
open Go.RowKit

theorem strs_cell {B : Nat} {w : World} {A n cap : Nat} {ps : List (List UInt8)} (h : w.ownsRow B 9 1 (.slice (some ⟨A, 0, none⟩) n cap) ps.length (ps.map strV)) (k : Nat) (hk : k < ps.length) : w.cell? ⟨A, k, none⟩ = some (strV ps[k]) := by
  rcases h.2 with ⟨hv, hn⟩ | ⟨g, cap', cur, hv, hb, hc, hn, hm, hs, ht⟩
  · simp at hv
  · have hA : A = g := by
      have := congrArg Value.ownBlock hv
      simpa [Value.ownBlock] using this
    subst hA
    have := Lib.cells_of_row hc (ps.length * 1) k (strV ps[k]) (by rw [ht]; simp [hk])
    rwa [Lib.addr_add, Nat.zero_add] at this

theorem splitL_size (c : UInt8) (l : List UInt8) : ∀ p ∈ splitL c l, p.length ≤ l.length := by
  induction l with
  | nil => simp [splitL]
  | cons x xs ih =>
    intro p hp
    simp only [splitL] at hp
    split at hp
    · rcases List.mem_cons.1 hp with rfl | h
      · simp
      · have := ih p h; simp; omega
    · split at hp
      · rename_i h t he
        rcases List.mem_cons.1 hp with rfl | h2
        · have := ih h (by rw [he]; simp); simp; omega
        · have := ih p (by rw [he]; simp [h2]); simp; omega
      · simp at hp; subst hp; simp

theorem strV_eq (l : List UInt8) : ∃ s : ByteArray, strV l = .string s ∧ s.data.toList = l := ⟨⟨l.toArray⟩, rfl, rfl⟩

set_option maxHeartbeats 4000000 in
set_option maxRecDepth 100000 in
theorem w26 (s : ByteArray) (w : World) (hs : s.size ≤ 2147483647) :
    Calls Tryd.prog 26 #[.string s] w fun e w' => e = .returned (.bool (wordsB s.data.toList)) ∧ Below w.heap.size w w' := by
  have hn1 := splitL_length 32 s.data.toList
  rw [← Lib.size_eq] at hn1
  have hsz := splitL_size 32 s.data.toList
  generalize hps : splitL 32 s.data.toList = ps at hn1 hsz
  have HSZ := Lib.hid hsz
  have HP := Lib.hid hps
  clear hps hsz
  go_enter Tryd.func26, Tryd.ntmps26
  go_wp2_with fail
  refine (w19 s 32 w (by omega)).mono ?_
  rw [HP.out]
  rintro e w1 ⟨A, cap, rfl, hown, hb⟩
  have HO := Lib.hid hown
  have HB := Lib.hid hb
  clear hown hb
  go_wp2_with fail
  go_loop [10] (fun i => ∃ k : Nat, i = .int .i64 k ∧ k ≤ ps.length ∧ Hid ((ps.take k).all lowerB = true)) (fun i => ps.length - (intOf i).toNat)
  case atStart => exact ⟨0, rfl, Nat.zero_le _, Lib.hid (by simp)⟩
  case round =>
    obtain ⟨k, rfl, hk, hal⟩ := hrel
    by_cases hlt : k < ps.length
    · have c0 := strs_cell HO.out k hlt
      obtain ⟨x, hx, hxd⟩ := strV_eq ps[k]
      rw [hx] at c0
      have hxs : x.size ≤ 2147483647 := by
        have := HSZ.out ps[k] (List.getElem_mem hlt)
        rw [Lib.size_eq, hxd]; rw [← Lib.size_eq] at this; omega
      have HX := Lib.hid hxd
      clear hxd hx
      go_wp2_with fail
      refine (w48 x w1 (by omega)).mono ?_
      rintro e w1' ⟨rfl, rfl⟩
      cases hlow : lowerB x.data.toList with
      | true =>
        have hst : (ps.take (k + 1)).all lowerB = true := by
          rw [List.take_succ_eq_append_getElem hlt, List.all_append, hal.out, ← HX.out]
          simp [hlow]
        have HST := Lib.hid hst
        clear hst hlow
        go_wp2_with fail
        go_round
        case rel => exact ⟨k + 1, by go_num, by omega, HST⟩
        case measure => simp [intOf]; omega
      | false =>
        have hno : wordsB s.data.toList = false := by
          unfold wordsB
          rw [HP.out, Bool.and_eq_false_iff]
          left
          rw [List.all_eq_false]
          exact ⟨ps[k], List.getElem_mem hlt, by rw [← HX.out, hlow]; simp⟩
        have HNO := Lib.hid hno
        clear hno hlow
        go_wp2_with fail
        go_ret
        exact ⟨ret_bool (by rw [HNO.out]), HB.out⟩
    · have hfin : ps.all lowerB = true := by
        have := hal.out
        rwa [List.take_of_length_le (by omega)] at this
      by_cases h30 : (ps.length : Int) ≤ 30
      · have hw : Hid (wordsB s.data.toList = true) := Lib.hid (by unfold wordsB; rw [HP.out, hfin]; simp; omega)
        clear hfin hal
        go_wp2_with fail
        go_ret
        refine ⟨ret_bool ?_, HB.out⟩
        rw [hw.out]
      · have hw : Hid (wordsB s.data.toList = false) := Lib.hid (by unfold wordsB; rw [HP.out, hfin]; simp; omega)
        clear hfin hal
        go_wp2_with fail
        go_ret
        refine ⟨ret_bool ?_, HB.out⟩
        rw [hw.out]

set_option maxHeartbeats 1000000 in
set_option maxRecDepth 100000 in
theorem w16 (n wd : Int) (p c u : ByteArray) (w : World) :
    Calls Tryd.prog 16 #[.agg (lookCells n wd p c u)] w fun e w' => e = .returned (.bool (decide (p.size ≤ 2147483647) && (decide (c.size ≤ 2147483647) && decide (u.size ≤ 2147483647)))) ∧ w.alloc (.cells (lookCells n wd p c u) 31) = w' := by
  unfold lookCells
  by_cases h1 : p.size ≤ 2147483647
  · by_cases h2 : c.size ≤ 2147483647
    · by_cases h3 : u.size ≤ 2147483647
      · go_enter Tryd.func16, Tryd.ntmps16
        go_wp2
        go_ret
        exact ⟨ret_bool (by simp [h1, h2, h3]), rfl⟩
      · go_enter Tryd.func16, Tryd.ntmps16
        go_wp2
        go_ret
        exact ⟨ret_bool (by simp [h1, h2, h3]), rfl⟩
    · go_enter Tryd.func16, Tryd.ntmps16
      go_wp2
      go_ret
      exact ⟨ret_bool (by simp [h1, h2]), rfl⟩
  · go_enter Tryd.func16, Tryd.ntmps16
    go_wp2
    go_ret
    exact ⟨ret_bool (by simp [h1]), rfl⟩

set_option maxHeartbeats 1000000 in
set_option maxRecDepth 100000 in
theorem w28 (n : Nat) (wd : Int) (p c u : ByteArray) (w : World) :
    Calls Tryd.prog 28 #[.agg (lookCells n wd p c u)] w fun e w' => e = .returned (.int .i64 (levB n : Int)) ∧ w.alloc (.cells (lookCells n wd p c u) 31) = w' := by
  unfold lookCells
  by_cases hn : n = 0
  · subst hn
    go_enter Tryd.func28, Tryd.ntmps28
    go_wp2
    go_ret
    exact ⟨rfl, rfl⟩
  · have hn2 : (n : Int) ≠ 0 := by omega
    go_enter Tryd.func28, Tryd.ntmps28
    go_wp2
    go_ret
    exact ⟨by rw [levB_pos hn]; rfl, rfl⟩

end Go.Proofs.YtmjeokabbmigjaaDoor
