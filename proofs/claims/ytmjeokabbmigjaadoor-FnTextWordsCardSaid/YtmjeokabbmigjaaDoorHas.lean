/-
  spec.Has: whether a text stands in another one.
-/
import Derived.Test.YtmjeokabbmigjaaDoorProg
import Derived.WalkKit
import Derived.WalkSpells
import Derived.Deep.LoopGhost
import Derived.Lib.Hide
import Derived.Lib.Strings
import Derived.WalkLawsBesides
namespace Go.Proofs.YtmjeokabbmigjaaDoor
open Go.RowKit

/-- The part p stands in s at k. -/
def StandsAt (s p : ByteArray) (k : Nat) : Prop := k + p.size ≤ s.size ∧ (s.extract k (k + p.size)).toList = p.toList

/-- What spec.Has answers. -/
def HasPost (s p : ByteArray) (w : World) (e : Ending) (w' : World) : Prop := ∃ r : Bool, e = .returned (.bool r) ∧ (r = true ↔ ∃ k, StandsAt s p k) ∧ w = w'

theorem hasPost_yes {s p : ByteArray} {w : World} {k : Nat} (h : k + p.size ≤ s.size) (h2 : (s.extract k (k + p.size)).toList = p.toList) : HasPost s p w (.returned (.bool true)) w :=
  ⟨true, rfl, ⟨fun _ => ⟨k, h, h2⟩, fun _ => rfl⟩, rfl⟩
theorem hasPost_no {s p : ByteArray} {w : World} {k : Nat} (h : ¬ k + p.size ≤ s.size) (h2 : ∀ j, j < k → ¬ StandsAt s p j) : HasPost s p w (.returned (.bool false)) w :=
  ⟨false, rfl, ⟨(fun h => by cases h), (fun ⟨j, hj⟩ => by
    by_cases hjk : j < k
    · exact (h2 j hjk hj).elim
    · have := hj.1
      omega)⟩, rfl⟩

set_option maxHeartbeats 400000 in
theorem w11 (s p : ByteArray) (w : World) (hs : s.size ≤ 140737488355328) (hp : p.size ≤ 140737488355328) :
    Calls Tryd.prog 11 #[.string s, .string p] w (HasPost s p w) := by
  go_enter Tryd.func11, Tryd.ntmps11
  go_wp2
  go_loop [5] (fun i => ∃ k : Nat, i = .int .i64 k ∧ k ≤ s.size + 1 ∧ Hid (∀ j, j < k → ¬ StandsAt s p j)) (fun i => s.size + 1 - (intOf i).toNat)
  case atStart => exact ⟨0, rfl, by omega, Lib.hid (fun j hj => by omega)⟩
  case round =>
    obtain ⟨k, rfl, hk, hno⟩ := hrel
    by_cases hlt : k + p.size ≤ s.size
    · go_wp2
      · have h2 : ((s.extract k (k + p.size)).toList == p.toList) = true := by assumption
        go_ret
        exact hasPost_yes hlt (by simpa using h2)
      · have h2 : ((s.extract k (k + p.size)).toList == p.toList) = false := by assumption
        go_round
        case rel =>
          refine ⟨k + 1, by go_num, by omega, Lib.hid ?_⟩
          intro j hj
          by_cases e : j = k
          · subst e
            intro hst
            have h3 := hst.2
            rw [beq_eq_false_iff_ne] at h2
            exact h2 h3
          · exact hno.out j (by omega)
        case measure => simp [intOf]; omega
    · go_wp2
      go_ret
      exact hasPost_no hlt hno.out

end Go.Proofs.YtmjeokabbmigjaaDoor
