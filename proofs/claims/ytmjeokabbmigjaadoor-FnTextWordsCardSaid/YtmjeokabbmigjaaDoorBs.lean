/-
  strings.Builder's String, wherever the builder lies. Conditions: the builder is one of the call's own.
-/
import Derived.Test.YtmjeokabbmigjaaDoorBd
namespace Go.Proofs.YtmjeokabbmigjaaDoor
open Go.RowKit

theorem cellsByte : Tryd.prog.cellsOf 5 = 1 := by kernel_rfl

/-- String freezes the bytes in their row; it is a builder still. -/
theorem Bd.froze {B b o n g cap : Nat} {T : TypeId} {R : Nat → Option Value} {l : List Value} {w : World} (h : Bd B b o n T R l w) (hc : w.cell? ⟨b, o + 1, none⟩ = some (.slice (some ⟨g, 0, none⟩) l.length cap)) :
    Bd B b o n T R l (w.freeze ⟨g, 0, none⟩ l.length) := by
  obtain ⟨hB, hT, hO, hL, cs, p, v, hbk, hs, h0, h1, hp, hown, hr⟩ := h
  have hv : v = .slice (some ⟨g, 0, none⟩) l.length cap := by
    rw [Lib.cell_of_heap hbk, h1] at hc
    simpa using hc
  subst hv
  have hne := own_ne hown hbk hT
  have hgb : g ≠ b := fun e => hne (by simp [Value.ownBlock, e])
  unfold World.freeze
  split
  · exact ⟨hB, hT, hO, hL, cs, p, _, hbk, hs, h0, h1, hp, hown, hr⟩
  · rename_i hn0
    refine ⟨hB, hT, hO, hL, cs, p, _, ?_, hs, h0, h1, hp, ⟨hown.1, ?_⟩, hr⟩
    · simp only [Array.getElem?_modify]
      rw [if_neg hgb]
      exact hbk
    · rcases hown.2 with ⟨hv, _⟩ | ⟨g', cap', cur, fz, hv, hbg, hg, hfz, rest⟩
      · cases hv
      · injection hv with ha _ hcap
        injection ha with ha
        injection ha with hgg _ _
        subst hgg
        subst hcap
        obtain ⟨lo, hi⟩ := fz
        refine .inr ⟨g, _, cur, (if lo == hi then (0, 0 + l.length) else (min lo 0, max hi (0 + l.length))), rfl, hbg, ?_, ?_, rest⟩
        · simp [Array.getElem?_modify, hg]
        · simp only at hfz
          split <;> simp <;> omega

set_option maxHeartbeats 2000000 in
set_option maxRecDepth 100000 in
theorem w47_some {B b o n : Nat} {T : TypeId} {R : Nat → Option Value} (l : List UInt8) {w : World} (h : Bd B b o n T R (Lib.byteCells l) w) (h0 : l ≠ []) :
    Calls Tryd.prog 47 #[.pointer (some ⟨b, o, none⟩)] w fun e w' => e = .returned (.string ⟨l.toArray⟩) ∧ Bd B b o n T R (Lib.byteCells l) w' ∧ Wr B b w w' := by
  have h' := h
  obtain ⟨hB, hT, hO, hL, cs, p, v, hbk, hs, hc0, hc1, hp, hown, hr⟩ := h
  have hl0 : l.length ≠ 0 := by simpa using h0
  rw [Lib.byteCells_length] at hown
  obtain ⟨g, cap, cur, fz, rfl, hbg, hg, hfz, hnc, hcm, hcs, htake⟩ : ∃ g cap cur fz, v = .slice (some ⟨g, 0, none⟩) l.length cap ∧ B ≤ g ∧ w.heap[g]? = some (.cells cur 5 fz) ∧ fz.2 ≤ l.length * 1 ∧ l.length ≤ cap ∧ cap ≤ maxLen ∧ cur.size = cap * 1 ∧ cur.toList.take (l.length * 1) = Lib.byteCells l := by
    rcases hown.2 with ⟨_, hz⟩ | ⟨g, cap, cur, fz, hv, r⟩
    · exact absurd hz hl0
    · exact ⟨g, cap, cur, fz, hv, r⟩
  have c1 : w.drew.cell? ⟨b, o + 1, none⟩ = some (.slice (some ⟨g, 0, none⟩) l.length cap) := by
    have : w.drew.heap[b]? = some (.cells cs T (0, 0)) := hbk
    rw [Lib.cell_of_heap this]; exact hc1
  have hSD : (Builtin.unsafeSliceData_ #[50] 131 #[.slice (some ⟨g, 0, none⟩) l.length cap]).run Tryd.prog w.drew = .ok (.pointer (some ⟨g, 0, none⟩)) w.drew :=
    Lib.run_unsafeSliceData_row _ _ _ _ _ _ (by omega)
  have hUS : (Builtin.unsafeString_ #[131, 3] 9 #[.pointer (some ⟨g, 0, none⟩), .int .i64 l.length]).run Tryd.prog w.drew = .ok (.string ⟨l.toArray⟩) (w.drew.freeze ⟨g, 0, none⟩ l.length) := by
    refine Lib.run_unsafeString_row w.drew 131 3 9 5 Tryd.underlying131 cellsByte g cur.size (by have hg' : w.drew.heap[g]? = some (.cells cur 5 fz) := hg; simp [World.shape?, hg']) l h0 (by omega) (by unfold maxLen at hcm; omega) ?_
    intro j x hx
    have := hown.cells (g := g) rfl j (.int .u8 x.toNat) (by simp [Lib.byteCells, hx])
    exact this
  have hkeep : Bd B b o n T R (Lib.byteCells l) (w.drew.freeze ⟨g, 0, none⟩ l.length) := by
    have hF := h'.drew.froze (g := g) (cap := cap) (by rw [Lib.byteCells_length]; exact c1)
    rw [Lib.byteCells_length] at hF
    exact hF
  have hw : Wr B b w (w.drew.freeze ⟨g, 0, none⟩ l.length) := ⟨Lib.below_freeze (Below.drew (Below.refl B w)) (p := ⟨g, 0, none⟩) hbg _, ((Lib.OthersKept.refl _ _ w).drew).freeze ⟨g, 0, none⟩ _ ⟨cur, fz, hg⟩⟩
  have HK := Lib.hid hkeep
  have HW := Lib.hid hw
  clear hkeep hw hp hown hr htake hcs hfz hc0 hc1 hs hL
  go_enter Tryd.func47, Tryd.ntmps47
  go_wp2
  go_region
  all_goals (go_wp2; go_ret; exact ⟨rfl, HK.out, HW.out⟩)

end Go.Proofs.YtmjeokabbmigjaaDoor
