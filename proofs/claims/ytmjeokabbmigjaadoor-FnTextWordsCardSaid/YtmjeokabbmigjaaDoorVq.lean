/-
  Plain laws on the lines into which rising numbers part the words. No program in sight.
-/
import Derived.Test.YtmjeokabbmigjaaDoorVp
set_option linter.unusedVariables false
set_option linter.unusedSimpArgs false
namespace Go.Proofs.YtmjeokabbmigjaaDoor

/-- The i-th line's words. -/
def segOf (ws : List (List UInt8)) (f : Nat → Nat) (i : Nat) : List (List UInt8) := (ws.drop (f i)).take (f (i + 1) - f i)

/-- Numbers that rise from 0 to n. -/
structure Rise (f : Nat → Nat) (C n : Nat) : Prop where
  pos : 1 ≤ C
  few : C ≤ n
  zero : f 0 = 0
  last : f C = n
  up : ∀ j, j < C → f j < f (j + 1)

theorem Rise.le {f : Nat → Nat} {C n : Nat} (h : Rise f C n) : ∀ j, j ≤ C → f j ≤ n := by
  intro j hj
  have key : ∀ d, d ≤ C → f (C - d) ≤ n := by
    intro d
    induction d with
    | zero => intro _; rw [Nat.sub_zero, h.last]; exact Nat.le_refl _
    | succ d ih =>
      intro hd
      have h1 := ih (by omega)
      have h2 := h.up (C - (d + 1)) (by omega)
      rw [show C - (d + 1) + 1 = C - d by omega] at h2
      omega
  have := key (C - j) (by omega)
  rwa [show C - (C - j) = j by omega] at this

theorem Rise.flat {f : Nat → Nat} {C n : Nat} (h : Rise f C n) (ws : List (List UInt8)) (hn : ws.length = n) : ∀ i, i ≤ C → ((List.range i).map (segOf ws f)).flatten = ws.take (f i) := by
  intro i
  induction i with
  | zero => intro _; simp [h.zero]
  | succ i ih =>
    intro hi
    have h1 := h.up i (by omega)
    rw [List.range_succ, List.map_append, List.flatten_append, ih (by omega)]
    simp only [List.map_cons, List.map_nil, List.flatten_cons, List.flatten_nil, List.append_nil, segOf]
    rw [show f (i + 1) = f i + (f (i + 1) - f i) by omega, List.take_add]
    congr 2
    omega

theorem segOf_len {f : Nat → Nat} {C n : Nat} (h : Rise f C n) (ws : List (List UInt8)) (hn : ws.length = n) (i : Nat) (hi : i < C) : (segOf ws f i).length = f (i + 1) - f i := by
  have h1 := h.le (i + 1) (by omega)
  simp only [segOf, List.length_take, List.length_drop]
  omega

theorem segOf_get {f : Nat → Nat} (ws : List (List UInt8)) (i j : Nat) (hj : j < (segOf ws f i).length) : (segOf ws f i)[j]? = ws[f i + j]? := by
  simp only [segOf, List.length_take, List.length_drop] at hj ⊢
  rw [List.getElem?_take_of_lt (by omega), List.getElem?_drop]

theorem Rise.segs {f : Nat → Nat} {C n : Nat} (h : Rise f C n) (ws : List (List UInt8)) (hn : ws.length = n) : Segs ws ((List.range C).map (segOf ws f)) := by
  refine ⟨?_, ?_, ?_⟩
  · rw [h.flat ws hn C (Nat.le_refl _), h.last, ← hn, List.take_length]
  · intro e
    have := congrArg List.length e
    have := h.pos
    simp at *
    omega
  · intro seg hs e
    obtain ⟨i, hi, rfl⟩ := List.mem_map.1 hs
    have hi' : i < C := by simpa using hi
    have h1 := segOf_len h ws hn i hi'
    have h2 := h.up i hi'
    rw [e] at h1
    simp at h1
    omega

/-- What is printed ahead of the i-th line's words, and behind the i-th line. -/
def baseL (p : List UInt8) (ws : List (List UInt8)) (f : Nat → Nat) (i : Nat) : List UInt8 := linesL p ((List.range i).map (segOf ws f)) ++ p
def outL (p : List UInt8) (ws : List (List UInt8)) (f : Nat → Nat) (i : Nat) : List UInt8 := if i = 0 then p else linesL p ((List.range i).map (segOf ws f))

theorem outL_zero (p : List UInt8) (ws : List (List UInt8)) (f : Nat → Nat) : outL p ws f 0 = p := rfl
theorem baseL_zero (p : List UInt8) (ws : List (List UInt8)) (f : Nat → Nat) : baseL p ws f 0 = outL p ws f 0 := by simp [baseL, outL, linesL]
theorem baseL_pos (p : List UInt8) (ws : List (List UInt8)) (f : Nat → Nat) {i : Nat} (h : i ≠ 0) : baseL p ws f i = outL p ws f i ++ p := by simp [baseL, outL, h]
theorem outL_succ (p : List UInt8) (ws : List (List UInt8)) (f : Nat → Nat) (i : Nat) : outL p ws f (i + 1) = baseL p ws f i ++ joinL 32 (segOf ws f i) ++ [10] := by
  simp [outL, baseL, linesL, List.range_succ]

theorem join_take_zero (seg : List (List UInt8)) : joinL 32 (seg.take 0) = [] := by simp [joinL]
theorem join_take_one {seg : List (List UInt8)} {x : List UInt8} (h : seg[0]? = some x) : joinL 32 (seg.take 1) = x := by
  rw [List.take_add_one, List.take_zero, h]; rfl
theorem join_take_succ {seg : List (List UInt8)} {x : List UInt8} {j : Nat} (hj : j ≠ 0) (h : seg[j]? = some x) : joinL 32 (seg.take (j + 1)) = joinL 32 (seg.take j) ++ [32] ++ x := by
  rw [List.take_add_one, h]
  have hlt := (List.getElem?_eq_some_iff.1 h).1
  have : seg.take j ≠ [] := by
    intro e
    have := congrArg List.length e
    simp at this
    rcases this with h1 | h1
    · exact hj h1
    · rw [h1] at hlt; simp at hlt
  show joinL 32 (seg.take j ++ [x]) = _
  rw [joinL_more 32 _ this x]
  simp

end Go.Proofs.YtmjeokabbmigjaaDoor
