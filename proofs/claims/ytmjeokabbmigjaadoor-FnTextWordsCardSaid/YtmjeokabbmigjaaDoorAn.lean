/-
  spec.Any walked.
-/
import Derived.Test.YtmjeokabbmigjaaDoorBf
namespace Go.Proofs.YtmjeokabbmigjaaDoor
open Go.RowKit

theorem below_any {B : Nat} {a w : World} (h : Below B a w) (n : Nat) : Below B a (w.drewN n) := h.trans ⟨rfl, rfl, rfl, Nat.le_refl _, fun _ _ => rfl⟩

set_option maxHeartbeats 4000000 in
set_option maxRecDepth 100000 in
theorem w18 (s g : ByteArray) (w : World) (hs : s.size ≤ 8589934592) (hg : g.size ≤ 100) :
    Calls Tryd.prog 18 #[.string s, .string g] w fun e w' => e = .returned (.bool (anyB s.data.toList g.data.toList)) ∧ Below w.heap.size w w' := by
  have HB := Lib.hid (Below.refl w.heap.size w)
  go_enter Tryd.func18, Tryd.ntmps18
  go_wp2_with fail
  go_loopg [5] s.size (fun m i wr => ∃ k : Nat, k + m = s.size ∧ i = .int .i64 k ∧ Hid (anyB (s.data.toList.take k) g.data.toList = false) ∧ Hid (Below w.heap.size w wr))
  case atStart => exact ⟨0, by omega, rfl, Lib.hid (by simp [anyB]), HB⟩
  case round =>
    obtain ⟨k, hk, rfl, KN, KB⟩ := hrel
    by_cases hlt : k < s.size
    · have hlt2 : k < s.data.toList.length := by rw [← Lib.size_eq]; exact hlt
      go_wp2_with fail
      go_loopg [6] g.size (fun m i wr => ∃ j : Nat, j + m = g.size ∧ i = .int .i64 j ∧ Hid (∀ d ∈ g.data.toList.take j, s.data.toList[k] ≠ d) ∧ Hid (Below w.heap.size w wr))
      case atStart => exact ⟨0, by omega, rfl, Lib.hid (by simp), KB⟩
      case round =>
        obtain ⟨j, hj, rfl, JN, JB⟩ := hrel
        by_cases hjt : j < g.size
        · have hjt2 : j < g.data.toList.length := by rw [← Lib.size_eq]; exact hjt
          have hget : s.data.toList[k] = s[k] := rfl
          have hget2 : g.data.toList[j] = g[j] := rfl
          have k0 : (0 : Int) ≤ (k : Int) := Int.natCast_nonneg _
          have k1 : (k : Int) < (s.size : Int) := by omega
          have j0 : (0 : Int) ≤ (j : Int) := Int.natCast_nonneg _
          have j1 : (j : Int) < (g.size : Int) := by omega
          by_cases he : s[k] = g[j]
          · have hyes : Hid (anyB s.data.toList g.data.toList = true) := Lib.hid (by
              unfold anyB
              rw [List.any_eq_true]
              refine ⟨s.data.toList[k], List.getElem_mem hlt2, ?_⟩
              rw [List.any_eq_true]
              exact ⟨g.data.toList[j], List.getElem_mem hjt2, by rw [hget, hget2, he]; simp⟩)
            have hc2 : ((s[k].toNat : Int) == (g[j].toNat : Int)) = true := by rw [he]; simp
            clear he hget hget2
            go_wp2_with fail
            go_quiet (fail)
            go_wp2_with fail
            go_ret
            exact ⟨ret_bool (by rw [hyes.out]), below_any JB.out _⟩
          · have JN' : Hid (∀ d ∈ g.data.toList.take (j + 1), s.data.toList[k] ≠ d) := Lib.hid (by
              intro d hd
              rw [List.take_succ_eq_append_getElem hjt2] at hd
              rcases List.mem_append.1 hd with h1 | h1
              · exact JN.out d h1
              · simp at h1; subst h1; rw [hget]; exact he)
            have hc2 : ((s[k].toNat : Int) == (g[j].toNat : Int)) = false := by
              rw [beq_eq_false_iff_ne]
              intro e
              exact he (UInt8.toNat_inj.1 (by omega))
            clear he hget hget2
            go_wp2_with fail
            go_quiet (fail)
            go_wp2_with fail
            go_roundg (g.size - (j + 1))
            case measure => omega
            case rel => exact ⟨j + 1, by omega, by go_num, JN', Lib.hid (below_any JB.out _)⟩
        · have KN' : Hid (anyB (s.data.toList.take (k + 1)) g.data.toList = false) := Lib.hid (by
            have h1 := JN.out
            rw [List.take_of_length_le (by rw [← Lib.size_eq]; omega)] at h1
            rw [List.take_succ_eq_append_getElem hlt2]
            have h2 := KN.out
            unfold anyB at h2 ⊢
            rw [List.any_append, h2]
            simp only [List.any_cons, List.any_nil, Bool.or_false, Bool.false_or]
            rw [List.any_eq_false]
            intro d hd
            have := h1 d hd
            simpa using this)
          go_wp2_with fail
          go_roundg (s.size - (k + 1))
          case measure => omega
          case rel => exact ⟨k + 1, by omega, by go_num, KN', JB⟩
    · have hno : Hid (anyB s.data.toList g.data.toList = false) := Lib.hid (by
        have := KN.out
        rwa [List.take_of_length_le (by rw [← Lib.size_eq]; omega)] at this)
      go_wp2_with fail
      go_ret
      exact ⟨ret_bool (by rw [hno.out]), KB.out⟩

end Go.Proofs.YtmjeokabbmigjaaDoor
