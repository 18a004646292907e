/-
  The reference's words on texts, walked: Lower, Split, Words, Any. Conditions: texts of at most 2^33 bytes.
-/
import Derived.Test.YtmjeokabbmigjaaDoorSp
import Derived.Test.YtmjeokabbmigjaaDoorShelf
import Derived.WalkKit
import Derived.WalkSpells
import Derived.Deep.LoopGhost
import Derived.Deep.QuietTactic
import Derived.BigQuiet
import Derived.Lib.Hide
import Derived.Lib.Strings
import Derived.WalkLawsBesides
namespace Go.Proofs.YtmjeokabbmigjaaDoor
open Go.RowKit

theorem ret_bool {a b : Bool} (h : a = b) : Ending.returned (.bool a) = .returned (.bool b) := by rw [h]

set_option maxHeartbeats 400000 in
theorem w48 (s : ByteArray) (w : World) (hs : s.size ≤ 8589934592) :
    Calls Tryd.prog 48 #[.string s] w fun e w' => e = .returned (.bool (lowerB s.data.toList)) ∧ w = w' := by
  go_enter Tryd.func48, Tryd.ntmps48
  go_wp2_with fail
  go_loop [3] (fun i => ∃ k : Nat, i = .int .i64 k ∧ k ≤ s.size ∧ Hid ((s.data.toList.take k).all isLow = true)) (fun i => s.size - (intOf i).toNat)
  case atStart => exact ⟨0, rfl, Nat.zero_le _, Lib.hid (by simp)⟩
  case round =>
    obtain ⟨k, rfl, hk, hal⟩ := hrel
    by_cases hlt : k < s.size
    · have hlt2 : k < s.data.toList.length := by rw [← Lib.size_eq]; exact hlt
      have hget : s.data.toList[k] = s[k] := rfl
      by_cases hlo : (s[k].toNat : Int) < 97
      · have hno : lowerB s.data.toList = false := by
          unfold lowerB
          rw [Bool.and_eq_false_iff]
          left
          rw [List.all_eq_false]
          exact ⟨s.data.toList[k], List.getElem_mem hlt2, by rw [hget]; simp [isLow]; omega⟩
        have HNO := Lib.hid hno
        clear hno hget
        go_wp2_with fail
        go_ret
        exact ⟨by rw [HNO.out]; rfl, rfl⟩
      · by_cases hhi : 122 < (s[k].toNat : Int)
        · have hno : lowerB s.data.toList = false := by
            unfold lowerB
            rw [Bool.and_eq_false_iff]
            left
            rw [List.all_eq_false]
            exact ⟨s.data.toList[k], List.getElem_mem hlt2, by rw [hget]; simp [isLow]; omega⟩
          have HNO := Lib.hid hno
          clear hno hget
          go_wp2_with fail
          go_ret
          exact ⟨by rw [HNO.out]; rfl, rfl⟩
        · have hst : (s.data.toList.take (k + 1)).all isLow = true := by
            rw [List.take_succ_eq_append_getElem hlt2, List.all_append, hal.out, hget]
            simp [isLow]; omega
          have HST := Lib.hid hst
          clear hst hget
          go_wp2_with fail
          go_round
          case rel => exact ⟨k + 1, by go_num, by omega, HST⟩
          case measure => simp [intOf]; omega
    · have hfin : s.data.toList.all isLow = true := by
        have := hal.out
        rwa [List.take_of_length_le (by rw [← Lib.size_eq]; omega)] at this
      have HF := Lib.hid hfin
      clear hfin hal
      by_cases h1 : 1 ≤ s.size
      · by_cases h8 : s.size ≤ 8
        · have hyes : lowerB s.data.toList = true := by unfold lowerB; rw [HF.out, ← Lib.size_eq]; simp [h1, h8]
          have HY := Lib.hid hyes
          clear hyes
          go_wp2_with fail
          go_ret
          exact ⟨ret_bool (by rw [HY.out]; simp; omega), rfl⟩
        · have hno : lowerB s.data.toList = false := by unfold lowerB; rw [HF.out, ← Lib.size_eq]; simp [h8]
          have HY := Lib.hid hno
          clear hno
          go_wp2_with fail
          go_ret
          exact ⟨ret_bool (by rw [HY.out]; simp; omega), rfl⟩
      · have hno : lowerB s.data.toList = false := by unfold lowerB; rw [HF.out, ← Lib.size_eq]; simp [h1]
        have HY := Lib.hid hno
        clear hno
        go_wp2_with fail
        go_ret
        refine ⟨?_, rfl⟩
        rw [HY.out]
        rfl

theorem info9 : (Tryd.prog.info? 9).map (fun i => (i.zero, i.size, i.bytes)) = some (some (.string ⟨#[]⟩), 1, 16) := by kernel_rfl

def strV (l : List UInt8) : Value := .string ⟨l.toArray⟩

/-- What spec.Split answers: a list of strings of its own. -/
def StrsPost (ps : List (List UInt8)) (w : World) (e : Ending) (w' : World) : Prop :=
  ∃ A cap, e = .returned (.slice (some ⟨A, 0, none⟩) ps.length cap) ∧ w'.ownsRow w.heap.size 9 1 (.slice (some ⟨A, 0, none⟩) ps.length cap) ps.length (ps.map strV) ∧ Below w.heap.size w w'

theorem strV_extract (s : ByteArray) (a b : Nat) : (Value.string (s.extract a b)) = strV ((s.data.toList.drop a).take (b - a)) := by
  unfold strV
  congr 1
  obtain ⟨⟨l⟩⟩ := s
  apply ByteArray.ext
  apply Array.toList_inj.1
  rw [Lib.extract_data]

/-- Where Split stands: the parts in 'outs' are behind it, 'from' bytes are used up, and no sign c stands from there to k. -/
def SplitAt (c : UInt8) (l : List UInt8) (outs : List (List UInt8)) (from_ k : Nat) : Prop :=
  from_ ≤ k ∧ k ≤ l.length ∧ splitL c l = outs ++ splitL c (l.drop from_) ∧ outs.length ≤ from_ ∧ ∀ j (h : j < l.length), from_ ≤ j → j < k → l[j] ≠ c

theorem SplitAt.start (c : UInt8) (l : List UInt8) : SplitAt c l [] 0 0 := ⟨Nat.le_refl _, Nat.zero_le _, by simp, by simp, fun j _ h1 h2 => by omega⟩

theorem SplitAt.free {c : UInt8} {l : List UInt8} {outs : List (List UInt8)} {f k : Nat} (h : SplitAt c l outs f k) : ∀ x ∈ (l.drop f).take (k - f), x ≠ c := by
  obtain ⟨h1, h2, _, _, h4⟩ := h
  intro x hx
  obtain ⟨j, hj, rfl⟩ := List.mem_iff_getElem.1 hx
  simp at hj
  simp only [List.getElem_take, List.getElem_drop]
  exact h4 (f + j) (by omega) (by omega) (by omega)

theorem SplitAt.no {c : UInt8} {l : List UInt8} {outs : List (List UInt8)} {f k : Nat} (h : SplitAt c l outs f k) (hk : k < l.length) (hne : l[k] ≠ c) : SplitAt c l outs f (k + 1) := by
  obtain ⟨h1, h2, h3, h5, h4⟩ := h
  refine ⟨by omega, by omega, h3, h5, fun j hj a b => ?_⟩
  by_cases e : j = k
  · subst e; exact hne
  · exact h4 j hj a (by omega)

theorem SplitAt.yes {c : UInt8} {l : List UInt8} {outs : List (List UInt8)} {f k : Nat} (h : SplitAt c l outs f k) (hk : k < l.length) (he : l[k] = c) :
    SplitAt c l (outs ++ [(l.drop f).take (k - f)]) (k + 1) (k + 1) := by
  have hfree := h.free
  obtain ⟨h1, h2, h3, h5, h4⟩ := h
  refine ⟨Nat.le_refl _, by omega, ?_, by simp; omega, fun j _ a b => by omega⟩
  rw [h3, List.append_assoc]
  congr 1
  have e1 : l.drop f = (l.drop f).take (k - f) ++ c :: l.drop (k + 1) := by
    have a1 := (List.take_append_drop (k - f) (l.drop f)).symm
    rw [List.drop_drop, show f + (k - f) = k by omega, List.drop_eq_getElem_cons hk, he] at a1
    exact a1
  rw [e1, splitL_at hfree]
  simp only [List.singleton_append]
  congr 1
  rw [← e1]

theorem SplitAt.done {c : UInt8} {l : List UInt8} {outs : List (List UInt8)} {f : Nat} (h : SplitAt c l outs f l.length) : splitL c l = outs ++ [l.drop f] := by
  have hfree := h.free
  obtain ⟨h1, h2, h3, h5, h4⟩ := h
  rw [h3]
  congr 1
  rw [List.take_of_length_le (by simp)] at hfree
  exact splitL_none hfree

set_option maxHeartbeats 2000000 in
set_option maxRecDepth 100000 in
theorem w19 (s : ByteArray) (c : UInt8) (w : World) (hs : s.size ≤ 8589934592) :
    Calls Tryd.prog 19 #[.string s, .int .u8 c.toNat] w (StrsPost (splitL c s.data.toList) w) := by
  obtain ⟨i0, hi, hz0, hz1, hz2⟩ := info_parts info9
  have hown : (w.alloc (.cells #[] 9)).ownsRow w.heap.size 9 1 (.slice (some ⟨w.heap.size, 0, none⟩) 0 0) 0 [] :=
    ⟨rfl, .inr ⟨w.heap.size, 0, #[], rfl, Nat.le_refl _, heap_alloc_new w _, Nat.le_refl _, by decide, rfl, rfl⟩⟩
  have HO := Lib.hid hown
  have HB := Lib.hid ((Below.refl w.heap.size w).alloc (Nat.le_refl _) (.cells #[] 9))
  have HS := Lib.hid (SplitAt.start c s.data.toList)
  clear hown
  go_enter Tryd.func19, Tryd.ntmps19
  go_wp2_with fail
  go_loopg [5, 6, 7] s.size (fun g v f i wr => ∃ (k from_ : Nat) (outs : List (List UInt8)), k + g = s.size ∧ i = .int .i64 k ∧ f = .int .i64 from_ ∧ Hid (SplitAt c s.data.toList outs from_ k) ∧ Hid (wr.ownsRow w.heap.size 9 1 v outs.length (outs.map strV)) ∧ Hid (Below w.heap.size w wr))
  case atStart => exact ⟨0, 0, [], by omega, rfl, rfl, HS, HO, HB⟩
  case round =>
    obtain ⟨k, f, outs, hk, rfl, rfl, KS, KO, KB⟩ := hrel
    have hfk := KS.out.1
    have hkl := KS.out.2.1
    have hol := KS.out.2.2.2.1
    have hsz := KB.out.size
    by_cases hlt : k < s.size
    · have hlt2 : k < s.data.toList.length := by rw [← Lib.size_eq]; exact hlt
      have hget : s.data.toList[k] = s[k] := rfl
      by_cases hc : s[k] = c
      · have KS' := Lib.hid (KS.out.yes hlt2 (by rw [hget]; exact hc))
        have hc2 : ((s[k].toNat : Int) == (c.toNat : Int)) = true := by rw [hc]; simp
        clear hc hget
        go_wp2_with (at_builtin; refine wpList_append_own _ rfl _ _ 33 rfl w.heap.size 9 i0 (.string ⟨#[]⟩) 1 16 Tryd.underlying33 hi hz0 hz1 hz2 rfl (by decide) _ _ _ rfl (KO.out.alloc _) ⟨_, 0, none⟩ 1 1 [.string (s.extract f k)] rfl rfl ?c1 ?c2 ?c3 ?c4 ?c5 ?_)
        case c1 => exact cell_one_new _ _ _
        case c2 => intro u hu; simp at hu; subst hu; rfl
        case c3 => unfold maxLen; omega
        case c4 => omega
        case c5 => simp; omega
        intro v' w1 hown' hgrow _
        have KO' : Hid (w1.ownsRow w.heap.size 9 1 v' (outs ++ [(s.data.toList.drop f).take (k - f)]).length ((outs ++ [(s.data.toList.drop f).take (k - f)]).map strV)) := Lib.hid (by
          rw [List.map_append, List.length_append]
          simp only [List.map_cons, List.map_nil, List.length_cons, List.length_nil]
          rw [← strV_extract]; exact hown')
        have KB' : Hid (Below w.heap.size w w1) := Lib.hid ((KB.out.alloc (by omega) _).grown hgrow (by simp; omega) (fun k hk => (KO.out.lt k hk).1))
        clear hown' hgrow
        go_wp2_with fail
        go_roundg (s.size - (k + 1))
        case measure => omega
        case rel => exact ⟨k + 1, k + 1, _, by omega, by go_num, by go_num, KS', KO', KB'⟩
      · have KS' := Lib.hid (KS.out.no hlt2 (by rw [hget]; exact hc))
        have hc2 : ((s[k].toNat : Int) == (c.toNat : Int)) = false := by
          rw [beq_eq_false_iff_ne]
          intro e
          exact hc (UInt8.toNat_inj.1 (by omega))
        clear hc hget
        go_wp2_with fail
        go_roundg (s.size - (k + 1))
        case measure => omega
        case rel => exact ⟨k + 1, f, outs, by omega, by go_num, rfl, KS', KO, KB⟩
    · obtain rfl : k = s.data.toList.length := by rw [← Lib.size_eq]; omega
      have KS' := Lib.hid KS.out.done
      go_wp2_with (at_builtin; refine wpList_append_own _ rfl _ _ 33 rfl w.heap.size 9 i0 (.string ⟨#[]⟩) 1 16 Tryd.underlying33 hi hz0 hz1 hz2 rfl (by decide) _ _ _ rfl (KO.out.alloc _) ⟨_, 0, none⟩ 1 1 [.string (s.extract f s.size)] rfl rfl ?c1 ?c2 ?c3 ?c4 ?c5 ?_)
      case c1 => exact cell_one_new _ _ _
      case c2 => intro u hu; simp at hu; subst hu; rfl
      case c3 => unfold maxLen; omega
      case c4 => omega
      case c5 => simp; omega
      intro v' w1 hown' hgrow _
      have e1 : (Value.string (s.extract f s.size)) = strV (s.data.toList.drop f) := by
        rw [strV_extract, List.take_of_length_le (by rw [List.length_drop, ← Lib.size_eq]; omega)]
      rw [e1] at hown'
      have hlen : outs.length + [strV (s.data.toList.drop f)].length = (outs ++ [s.data.toList.drop f]).length := by simp
      have hmap : outs.map strV ++ [strV (s.data.toList.drop f)] = (outs ++ [s.data.toList.drop f]).map strV := by simp
      rw [hmap] at hown'
      have KB' : Hid (Below w.heap.size w w1) := Lib.hid ((KB.out.alloc (by omega) _).grown hgrow (by simp; omega) (fun k hk => (KO.out.lt k hk).1))
      obtain ⟨A, cap, rfl, ho⟩ : ∃ A cap, v' = .slice (some ⟨A, 0, none⟩) (outs ++ [s.data.toList.drop f]).length cap ∧ w1.ownsRow w.heap.size 9 1 v' (outs ++ [s.data.toList.drop f]).length ((outs ++ [s.data.toList.drop f]).map strV) := by
        have hown2 : w1.ownsRow w.heap.size 9 1 v' (outs ++ [s.data.toList.drop f]).length ((outs ++ [s.data.toList.drop f]).map strV) := by rw [← hlen]; exact hown'
        rcases hown2.2 with ⟨_, h0⟩ | ⟨g, cap, cur, hv, _⟩
        · simp at h0
        · exact ⟨g, cap, hv, hown2⟩
      have KO' := Lib.hid ho
      clear hown' hgrow ho
      go_wp2_with fail
      go_ret
      unfold StrsPost
      rw [KS'.out]
      exact ⟨A, cap, rfl, KO'.out, KB'.out⟩

end Go.Proofs.YtmjeokabbmigjaaDoor
