/-
  The law FnTextCode, walked.
-/
import Derived.Test.YtmjeokabbmigjaaDoorPt
import Derived.Test.YtmjeokabbmigjaaDoorIt
import Derived.Test.YtmjeokabbmigjaaDoorDc
import Derived.Test.YtmjeokabbmigjaaDoorLn
import Derived.Test.YtmjeokabbmigjaaDoorHw
namespace Go.Proofs.YtmjeokabbmigjaaDoor
open Go.RowKit

theorem code20 (n wd : Int) (p c u : ByteArray) (k : Nat) (s : ByteArray) (ps : List (List UInt8)) (w : World) (hp : p.size ≤ 1000) (hc : c.size ≤ 1000) (hk : w.heap[k]? = some (.cells (codeCells s) 38 (0, 0)))
    (htext : s.data.toList = unl ps) (hps : ∀ p ∈ ps, LineOk p) (hpl : ps.length ≤ 6) (hne : ps ≠ []) :
    Calls Tryd.prog 20 #[.agg (lookCells n wd p c u), .agg #[.slice (some ⟨k, 0, none⟩) 1 1, .slice none 0 0]] w fun e w' =>
      e = .returned (.string ⟨(codeL (cpOf p c).data.toList ps).toArray⟩) ∧ Below w.heap.size w w' := by
  have hcp : (cpOf p c).size ≤ 1000000 := by
    unfold cpOf
    split
    · rw [ByteArray.size_append]; show p.size + 1 ≤ _; omega
    · omega
  refine w20 (D := fun w db => CodeDoc w db s) n wd p c u k w ?_ ?_ ?_
  · cases ps with
    | nil => exact (hne rfl).elim
    | cons q r => simp [codeL]
  · intro w' hb
    exact w41c k s w' ((hb.block k (Lib.lt_of_heap hk)).trans hk)
  · intro w' pb db hb hpr hd
    obtain ⟨cb, ccap, ccs, xb, h1, h2, h3, h4⟩ := hd
    refine w40 n wd p c u pb db cb ccap ccs _ _ hpr h1 h2 h3 hp ?_
    intro w1 b hb1 g1 g2 g3 g4
    exact w68c (l := []) w'.heap.size xb (tpCells pb p (cpOf p c) (wdOf p wd)) (cpOf p c) s ps g2 (by simp) hcp g1 rfl ((g3.block xb (Lib.lt_of_heap h4)).trans h4) (by omega) (by omega) htext hps hpl

theorem lineOk_of {p : List UInt8} (h : wordsB p = true) : LineOk p := by
  have hp := wordsP_of h
  refine ⟨words_ne h, words_len h, ?_, ?_⟩
  · intro x hx
    rcases words_mem h x hx with h1 | rfl
    · intro e; subst e; exact absurd h1 (by decide)
    · decide
  · obtain ⟨t, b, h1, h2⟩ := joinL_last _ hp.ne hp.low
    exact ⟨t, b, hp.join.trans h1, h2⟩

theorem unl_join : ∀ (ps : List (List UInt8)), ps ≠ [] → unl ps = joinL 10 ps ++ [10]
  | [], h => (h rfl).elim
  | [p], _ => by simp [unl, joinL]
  | p :: q :: r, _ => by
    have := unl_join (q :: r) (by simp)
    have h2 : unl (p :: q :: r) = p ++ [10] ++ unl (q :: r) := by simp [unl]
    rw [h2, this]
    simp [joinL]

section
variable (n wd : Int) (p c u s : ByteArray) (w : World)

set_option maxHeartbeats 1000000 in
set_option maxRecDepth 100000 in
theorem w5_unfit (h : fitsB p c u = false) : Calls Tryd.prog 5 #[.agg (lookCells n wd p c u), .string s] w (LawPost w) := by
  have c16 := fun w => w16 n wd p c u w
  unfold fitsB at h
  rw [h] at c16
  have C := Lib.hid c16
  clear c16 h
  unfold lookCells at C ⊢
  go_enter Tryd.func5, Tryd.ntmps5
  go_wp2_with fail
  refine (C.out _).mono ?_
  rintro e w1 ⟨rfl, rfl⟩
  go_wp2_with fail
  go_ret
  exact ⟨rfl, ((Below.refl _ w).alloc (Nat.le_refl _) _).alloc (by simp) _⟩

set_option maxHeartbeats 1000000 in
set_option maxRecDepth 100000 in
theorem w5_big (h : fitsB p c u = true) (hs : 2147483647 < s.size) : Calls Tryd.prog 5 #[.agg (lookCells n wd p c u), .string s] w (LawPost w) := by
  have c16 := fun w => w16 n wd p c u w
  unfold fitsB at h
  rw [h] at c16
  have C := Lib.hid c16
  clear c16 h
  unfold lookCells at C ⊢
  go_enter Tryd.func5, Tryd.ntmps5
  go_wp2_with fail
  refine (C.out _).mono ?_
  rintro e w1 ⟨rfl, rfl⟩
  go_wp2_with fail
  go_ret
  exact ⟨rfl, ((Below.refl _ w).alloc (Nat.le_refl _) _).alloc (by simp) _⟩

set_option maxHeartbeats 1000000 in
set_option maxRecDepth 100000 in
theorem w5_nolines (h : fitsB p c u = true) (hs : s.size ≤ 2147483647) (hw : linesB s.data.toList = false) : Calls Tryd.prog 5 #[.agg (lookCells n wd p c u), .string s] w (LawPost w) := by
  have c16 := fun w => w16 n wd p c u w
  unfold fitsB at h
  rw [h] at c16
  have c17 := fun w => w17 s w hs
  rw [hw] at c17
  have C := Lib.hid c16
  have C17 := Lib.hid c17
  clear c16 h c17 hw
  unfold lookCells at C ⊢
  go_enter Tryd.func5, Tryd.ntmps5
  go_wp2_with fail
  refine (C.out _).mono ?_
  rintro e w1 ⟨rfl, rfl⟩
  go_wp2_with fail
  refine (C17.out _).mono ?_
  rintro e w2 ⟨rfl, hb⟩
  have HB : Hid (Below w.heap.size w w2) := Lib.hid ((((Below.refl _ w).alloc (Nat.le_refl _) _).alloc (by simp) _).trans (hb.mono (by simp; omega)))
  clear hb
  go_wp2_with fail
  go_ret
  exact ⟨rfl, HB.out⟩
end

end Go.Proofs.YtmjeokabbmigjaaDoor
