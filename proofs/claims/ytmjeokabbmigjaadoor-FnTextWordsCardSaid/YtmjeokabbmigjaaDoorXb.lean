/-
  impl.Text of a sentence.
-/
import Derived.Test.YtmjeokabbmigjaaDoorXa
import Derived.Test.YtmjeokabbmigjaaDoorWc
import Derived.Test.YtmjeokabbmigjaaDoorIg
import Derived.Test.YtmjeokabbmigjaaDoorDo
set_option linter.unusedVariables false
set_option linter.unusedSimpArgs false
namespace Go.Proofs.YtmjeokabbmigjaaDoor
open Go.RowKit

theorem linesL_ne (p : List UInt8) {segs : List (List (List UInt8))} (h : segs ≠ []) : linesL p segs ≠ [] := by
  rw [linesL_join p segs h]
  simp

theorem linesL_len (p : List UInt8) : ∀ (segs : List (List (List UInt8))) (_ : ∀ seg ∈ segs, ∀ x ∈ seg, Word x), (linesL p segs).length ≤ segs.length * (p.length + 1) + 10 * segs.flatten.length
  | [], _ => by simp [linesL]
  | seg :: r, h => by
    have h1 := joinW_len seg (h seg (by simp))
    have h2 := linesL_len p r (fun s hs => h s (by simp [hs]))
    have h3 : linesL p (seg :: r) = (p ++ joinL 32 seg ++ [10]) ++ linesL p r := by simp [linesL]
    rw [h3]
    simp only [List.length_append, List.length_cons, List.length_nil, List.flatten_cons] at h2 ⊢
    have h4 : (r.length + 1) * (p.length + 1) = r.length * (p.length + 1) + (p.length + 1) := by rw [Nat.add_mul, Nat.one_mul]
    omega

theorem segs_few : ∀ (segs : List (List (List UInt8))) (_ : ∀ seg ∈ segs, seg ≠ []), segs.length ≤ segs.flatten.length
  | [], _ => by simp
  | seg :: r, h => by
    have h1 := segs_few r (fun s hs => h s (by simp [hs]))
    have h2 : 1 ≤ seg.length := by
      have := h seg (by simp)
      cases seg with
      | nil => exact (this rfl).elim
      | cons a b => simp
    simp only [List.length_cons, List.flatten_cons, List.length_append]
    omega

theorem words20 (HWR : WrapOk) (n wd : Int) (p c u : ByteArray) (k j : Nat) (s : ByteArray) (ws : List (List UInt8)) (w : World) (hp : p.size ≤ 100) (ht : Sps w) (hs : SentOk s ws) (hk : w.heap[k]? = some (.cells (blkCells 1 j) 38 (0, 0))) (hj : w.heap[j]? = some (.cells (spanCells s) 61 (0, 0))) :
    Calls Tryd.prog 20 #[.agg (lookCells n wd p c u), .agg #[.slice (some ⟨k, 0, none⟩) 1 1, .slice none 0 0]] w (TextPost (GoodT p ws) w) := by
  refine g20 (D := fun w db => OneDoc w db 122 123 s) n wd p c u k w ?_ ?_ ?_
  · rintro L ⟨segs, hsg, rfl⟩
    exact linesL_ne _ hsg.ne
  · intro w' hb
    exact w41p k j s w' ((hb.block k (Lib.lt_of_heap hk)).trans hk) ((hb.block j (Lib.lt_of_heap hj)).trans hj)
  · intro w' pb db hb hpr hd
    obtain ⟨cb, ccap, ccs, xb, A, cap, h1, h2, h3, h4, h5⟩ := hd
    refine g40 n wd p c u pb db cb ccap ccs _ _ hpr h1 h2 h3 (by omega) ?_
    intro w1 b hb1 g1 g2 g3 g4
    have l4 := Lib.lt_of_heap h4
    have l5 := h5.lt
    exact w68p HWR w'.heap.size pb b xb A cap p (cpOf p c) s (wdOf p wd) ws g1 g2 ((g3.block xb l4).trans h4) (h5.carry fun k hk => g3.block k hk) ⟨w, ht, by have := hb.size; omega, hb.trans (g3.mono hb.size)⟩ hs hp (by omega) (by omega) (by omega)

end Go.Proofs.YtmjeokabbmigjaaDoor
