/-
  Plain laws on a sentence of words: its fields, its lines behind a prefix, and what is read back of them. No program in sight.
-/
import Derived.Test.YtmjeokabbmigjaaDoorPw
import Derived.Lib.Fields
import Derived.Lib.Join
set_option linter.unusedVariables false
set_option linter.unusedSimpArgs false
namespace Go.Proofs.YtmjeokabbmigjaaDoor

/-- A word: small letters and points, at least one, at most nine. -/
structure Word (w : List UInt8) : Prop where
  ne : w ≠ []
  few : w.length ≤ 9
  low : ∀ c ∈ w, isLow c = true ∨ c = 46

theorem sign_sp {c : UInt8} (h : isLow c = true ∨ c = 46) : Lib.isSp c = false ∧ c.toNat < 128 ∧ c.toNat ≠ 10 ∧ c.toNat ≠ 32 ∧ c.toNat ≠ 9 := by
  rcases h with h | rfl
  · have h1 := isLow_sp h
    have h2 := isLow_spec h
    exact ⟨h1.1, h1.2, by omega, by omega, by omega⟩
  · decide

theorem fieldsGo_word : ∀ (w cur rest : List UInt8) (_ : ∀ c ∈ w, isLow c = true ∨ c = 46), Lib.fieldsGo cur (w ++ rest) = Lib.fieldsGo (cur ++ w) rest
  | [], cur, rest, _ => by simp
  | b :: w, cur, rest, h => by
    rw [List.cons_append, Lib.fieldsGo_more _ _ _ (sign_sp (h b (by simp))).1, fieldsGo_word w (cur ++ [b]) rest (fun c hc => h c (by simp [hc]))]
    simp

theorem fieldsGo_join : ∀ (ws : List (List UInt8)) (_ : ∀ w ∈ ws, Word w), Lib.fieldsGo [] (joinL 32 ws) = ws
  | [], _ => by simp [joinL, Lib.fieldsGo]
  | [w], h => by
    have hw := h w (by simp)
    have := fieldsGo_word w [] [] hw.low
    simp only [List.append_nil, List.nil_append] at this
    show Lib.fieldsGo [] w = [w]
    rw [this]
    have hne := hw.ne
    cases w with
    | nil => exact (hne rfl).elim
    | cons a r => simp [Lib.fieldsGo]
  | w :: v :: r, h => by
    have hw := h w (by simp)
    show Lib.fieldsGo [] (w ++ 32 :: joinL 32 (v :: r)) = _
    rw [fieldsGo_word w [] _ hw.low, List.nil_append, Lib.fieldsGo_end w 32 _ (by decide) hw.ne, fieldsGo_join (v :: r) (fun x hx => h x (by simp only [List.mem_cons] at hx ⊢; exact .inr hx))]

theorem fields_join {ws : List (List UInt8)} (h : ∀ w ∈ ws, Word w) : Lib.fields (joinL 32 ws) = ws := fieldsGo_join ws h

theorem join_eq : ∀ (ws : List (List UInt8)), Lib.join ws [32] = joinL 32 ws
  | [] => rfl
  | [w] => by rw [Lib.join_one]; rfl
  | w :: v :: r => by
    have ih := join_eq (v :: r)
    rw [Lib.join_cons] at ih
    rw [Lib.join_cons]
    show w ++ Lib.joinTail [32] (v :: r) = w ++ 32 :: joinL 32 (v :: r)
    rw [← ih]
    simp [Lib.joinTail]

/-- A point behind the last word. -/
def addDot : List (List UInt8) → List (List UInt8)
  | [] => []
  | [p] => [p ++ [46]]
  | p :: q :: r => p :: addDot (q :: r)

theorem addDot_len : ∀ (ps : List (List UInt8)), (addDot ps).length = ps.length
  | [] => rfl
  | [p] => rfl
  | p :: q :: r => by simp [addDot, addDot_len (q :: r)]
theorem addDot_ne : ∀ {ps : List (List UInt8)}, ps ≠ [] → addDot ps ≠ []
  | [], h => h
  | [p], _ => by simp [addDot]
  | p :: q :: r, _ => by simp [addDot]
theorem addDot_join : ∀ (ps : List (List UInt8)) (_ : ps ≠ []), joinL 32 (addDot ps) = joinL 32 ps ++ [46]
  | [], h => (h rfl).elim
  | [p], _ => rfl
  | p :: q :: r, _ => by
    have ih := addDot_join (q :: r) (by simp)
    obtain ⟨a, b, hab⟩ : ∃ a b, addDot (q :: r) = a :: b := by
      cases h : addDot (q :: r) with
      | nil => exact (addDot_ne (ps := q :: r) (by simp) h).elim
      | cons a b => exact ⟨a, b, rfl⟩
    show joinL 32 (p :: addDot (q :: r)) = (p ++ 32 :: joinL 32 (q :: r)) ++ [46]
    rw [hab] at ih ⊢
    show p ++ 32 :: joinL 32 (a :: b) = _
    rw [ih]
    simp
theorem addDot_word : ∀ (ps : List (List UInt8)) (_ : ∀ p ∈ ps, lowerB p = true), ∀ w ∈ addDot ps, Word w
  | [], _, w, hw => by simp [addDot] at hw
  | [p], h, w, hw => by
    simp only [addDot, List.mem_singleton] at hw
    subst hw
    have h1 := lowerB_parts (h p (by simp))
    refine ⟨by simp, by simp; omega, ?_⟩
    intro c hc
    rcases List.mem_append.1 hc with h2 | h2
    · exact .inl (h1.1 c h2)
    · exact .inr (by simpa using h2)
  | p :: q :: r, h, w, hw => by
    simp only [addDot, List.mem_cons] at hw
    rcases hw with rfl | hw
    · have h1 := lowerB_parts (h w (by simp))
      exact ⟨fun e => by simp [e] at h1, by omega, fun c hc => .inl (h1.1 c hc)⟩
    · exact addDot_word (q :: r) (fun x hx => h x (by simp only [List.mem_cons] at hx ⊢; exact .inr hx)) w hw

/-- The words of a sentence. -/
structure SentW (s : List UInt8) (ws : List (List UInt8)) : Prop where
  join : s = joinL 32 ws
  ne : ws ≠ []
  word : ∀ w ∈ ws, Word w
  few : ws.length ≤ 30

theorem sentW_of {s : List UInt8} (h : sentB s = true) : ∃ ws, SentW s ws := by
  unfold sentB at h
  rw [Bool.and_eq_true, beq_iff_eq] at h
  have hp := wordsP_of h.2
  refine ⟨addDot (splitL 32 s.dropLast), ⟨?_, addDot_ne hp.ne, addDot_word _ hp.low, by rw [addDot_len]; exact hp.few⟩⟩
  rw [addDot_join _ hp.ne, ← hp.join]
  have hne : s ≠ [] := fun e => by rw [e] at h; simp at h
  have h1 := h.1
  rw [List.getLast?_eq_some_getLast hne] at h1
  have h2 := List.dropLast_concat_getLast hne
  rw [Option.some.inj h1] at h2
  exact h2.symm

theorem joinW_len : ∀ (ws : List (List UInt8)) (_ : ∀ w ∈ ws, Word w), (joinL 32 ws).length ≤ 10 * ws.length
  | [], _ => by simp [joinL]
  | [w], h => by have := (h w (by simp)).few; simp [joinL]; omega
  | w :: v :: r, h => by
    have h1 := (h w (by simp)).few
    have h2 := joinW_len (v :: r) (fun x hx => h x (by simp only [List.mem_cons] at hx ⊢; exact .inr hx))
    simp only [joinL, List.length_append, List.length_cons] at h2 ⊢
    omega

theorem joinW_mem : ∀ (ws : List (List UInt8)) (_ : ∀ w ∈ ws, Word w), ∀ c ∈ joinL 32 ws, (isLow c = true ∨ c = 46) ∨ c = 32
  | [], _ => by simp [joinL]
  | [w], h => fun c hc => .inl ((h w (by simp)).low c (by simpa [joinL] using hc))
  | w :: v :: r, h => fun c hc => by
    simp only [joinL, List.mem_append, List.mem_cons] at hc
    rcases hc with h1 | h1 | h1
    · exact .inl ((h w (by simp)).low c h1)
    · exact .inr h1
    · exact joinW_mem (v :: r) (fun x hx => h x (by simp only [List.mem_cons] at hx ⊢; exact .inr hx)) c h1

theorem joinW_last : ∀ (ws : List (List UInt8)) (_ : ws ≠ []) (_ : ∀ w ∈ ws, Word w), ∃ t b, joinL 32 ws = t ++ [b] ∧ (isLow b = true ∨ b = 46)
  | [], h, _ => (h rfl).elim
  | [w], _, h => by
    have h1 := h w (by simp)
    exact ⟨w.dropLast, w.getLast h1.ne, by rw [List.dropLast_concat_getLast]; rfl, h1.low _ (List.getLast_mem h1.ne)⟩
  | w :: v :: r, _, h => by
    obtain ⟨t, b, h1, h2⟩ := joinW_last (v :: r) (by simp) (fun x hx => h x (by simp only [List.mem_cons] at hx ⊢; exact .inr hx))
    exact ⟨w ++ 32 :: t, b, by simp [joinL, h1], h2⟩

theorem joinL_more (c : UInt8) : ∀ (xs : List (List UInt8)) (_ : xs ≠ []) (y : List UInt8), joinL c (xs ++ [y]) = joinL c xs ++ c :: y
  | [], h, _ => (h rfl).elim
  | [x], _, y => rfl
  | x :: z :: r, _, y => by
    have ih := joinL_more c (z :: r) (by simp) y
    show x ++ c :: joinL c (z :: r ++ [y]) = (x ++ c :: joinL c (z :: r)) ++ c :: y
    rw [ih]
    simp

/-- Lines behind a prefix, each with a newline. -/
def linesL (p : List UInt8) (segs : List (List (List UInt8))) : List UInt8 := segs.flatMap fun seg => p ++ joinL 32 seg ++ [10]

theorem splitL_join : ∀ (xs : List (List UInt8)) (_ : xs ≠ []) (_ : ∀ x ∈ xs, ∀ c ∈ x, c ≠ 10), splitL 10 (joinL 10 xs) = xs
  | [], h, _ => (h rfl).elim
  | [x], _, h => splitL_none (h x (by simp))
  | x :: y :: r, _, h => by
    show splitL 10 (x ++ 10 :: joinL 10 (y :: r)) = _
    rw [splitL_at (h x (by simp)), splitL_join (y :: r) (by simp) (fun z hz => h z (by simp only [List.mem_cons] at hz ⊢; exact .inr hz))]

theorem linesL_join (p : List UInt8) : ∀ (segs : List (List (List UInt8))) (_ : segs ≠ []), linesL p segs = joinL 10 (segs.map fun seg => p ++ joinL 32 seg) ++ [10]
  | [], h => (h rfl).elim
  | [x], _ => by simp [linesL, joinL]
  | x :: y :: r, _ => by
    have ih := linesL_join p (y :: r) (by simp)
    show (p ++ joinL 32 x ++ [10]) ++ linesL p (y :: r) = _
    rw [ih]
    simp [joinL]

/-- The words, parted into lines. -/
structure Segs (ws : List (List UInt8)) (segs : List (List (List UInt8))) : Prop where
  flat : segs.flatten = ws
  ne : segs ≠ []
  full : ∀ seg ∈ segs, seg ≠ []

theorem Segs.word {ws : List (List UInt8)} {segs : List (List (List UInt8))} (h : Segs ws segs) (hw : ∀ w ∈ ws, Word w) : ∀ seg ∈ segs, ∀ w ∈ seg, Word w := fun seg hs w hm =>
  hw w (h.flat ▸ List.mem_flatten.2 ⟨seg, hs, hm⟩)

theorem Segs.lines {ws : List (List UInt8)} {segs : List (List (List UInt8))} (h : Segs ws segs) (hw : ∀ w ∈ ws, Word w) {p : List UInt8} (hp : ∀ c ∈ p, c ≠ 10) :
    splitL 10 (Lib.trimSuffix (linesL p segs) [10]) = segs.map fun seg => p ++ joinL 32 seg := by
  have e := linesL_join p segs h.ne
  have hs : Lib.hasSuffix (linesL p segs) [10] = true := by
    unfold Lib.hasSuffix
    rw [e]
    simp
  unfold Lib.trimSuffix
  rw [if_pos hs, e, List.length_append, List.length_singleton, Nat.add_sub_cancel, List.take_left]
  refine splitL_join _ (by simpa using h.ne) ?_
  intro x hx c hc
  obtain ⟨seg, hseg, rfl⟩ := List.mem_map.1 hx
  rcases List.mem_append.1 hc with h1 | h1
  · exact hp c h1
  · intro e
    subst e
    rcases joinW_mem seg (h.word hw seg hseg) 10 h1 with h2 | h2
    · exact (sign_sp h2).2.2.1 rfl
    · exact absurd h2 (by decide)

end Go.Proofs.YtmjeokabbmigjaaDoor
