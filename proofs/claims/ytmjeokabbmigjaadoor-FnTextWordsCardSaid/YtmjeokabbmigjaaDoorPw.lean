/-
  Plain laws on words of small letters with a blank between them. No program in sight.
-/
import Derived.Test.YtmjeokabbmigjaaDoorSp
import Derived.Lib.TrimAscii
namespace Go.Proofs.YtmjeokabbmigjaaDoor

/-- What wordsB says of a text. -/
structure WordsP (l : List UInt8) (ps : List (List UInt8)) : Prop where
  join : l = joinL 32 ps
  ne : ps ≠ []
  low : ∀ p ∈ ps, lowerB p = true
  few : ps.length ≤ 30

theorem wordsP_of {l : List UInt8} (h : wordsB l = true) : WordsP l (splitL 32 l) := by
  unfold wordsB at h
  rw [Bool.and_eq_true, List.all_eq_true] at h
  exact ⟨(joinL_splitL 32 l).symm, splitL_ne 32 l, h.1, by simpa using h.2⟩

theorem lowerB_parts {p : List UInt8} (h : lowerB p = true) : (∀ c ∈ p, isLow c = true) ∧ 1 ≤ p.length ∧ p.length ≤ 8 := by
  unfold lowerB at h
  rw [Bool.and_eq_true, List.all_eq_true] at h
  exact ⟨h.1, by simpa using h.2⟩

theorem joinL_mem : ∀ (ps : List (List UInt8)) (_ : ∀ p ∈ ps, lowerB p = true), ∀ c ∈ joinL 32 ps, isLow c = true ∨ c = 32
  | [], _ => by simp [joinL]
  | [p], h => fun c hc => .inl ((lowerB_parts (h p (by simp))).1 c (by simpa [joinL] using hc))
  | p :: q :: r, h => fun c hc => by
    simp only [joinL, List.mem_append, List.mem_cons] at hc
    rcases hc with h1 | h1 | h1
    · exact .inl ((lowerB_parts (h p (by simp))).1 c h1)
    · exact .inr h1
    · exact joinL_mem (q :: r) (fun x hx => h x (by simp only [List.mem_cons] at hx ⊢; exact .inr hx)) c h1

theorem joinL_len : ∀ (ps : List (List UInt8)) (_ : ∀ p ∈ ps, lowerB p = true), (joinL 32 ps).length ≤ 9 * ps.length
  | [], _ => by simp [joinL]
  | [p], h => by have := (lowerB_parts (h p (by simp))).2.2; simp [joinL]; omega
  | p :: q :: r, h => by
    have h1 := (lowerB_parts (h p (by simp))).2.2
    have h2 := joinL_len (q :: r) (fun x hx => h x (by simp only [List.mem_cons] at hx ⊢; exact .inr hx))
    simp only [joinL, List.length_append, List.length_cons] at h2 ⊢
    omega

theorem joinL_head : ∀ (ps : List (List UInt8)) (_ : ps ≠ []) (_ : ∀ p ∈ ps, lowerB p = true), ∃ a r, joinL 32 ps = a :: r ∧ isLow a = true
  | [], h, _ => (h rfl).elim
  | p :: t, _, h => by
    have h1 := lowerB_parts (h p (by simp))
    obtain ⟨a, r, rfl⟩ : ∃ a r, p = a :: r := by
      cases p with
      | nil => simp at h1
      | cons a r => exact ⟨a, r, rfl⟩
    cases t with
    | nil => exact ⟨a, r, rfl, h1.1 a (by simp)⟩
    | cons q u => exact ⟨a, r ++ 32 :: joinL 32 (q :: u), rfl, h1.1 a (by simp)⟩

theorem joinL_last : ∀ (ps : List (List UInt8)) (_ : ps ≠ []) (_ : ∀ p ∈ ps, lowerB p = true), ∃ t b, joinL 32 ps = t ++ [b] ∧ isLow b = true
  | [], h, _ => (h rfl).elim
  | [p], _, h => by
    have h1 := lowerB_parts (h p (by simp))
    have hne : p ≠ [] := fun e => by simp [e] at h1
    exact ⟨p.dropLast, p.getLast hne, by rw [List.dropLast_concat_getLast]; rfl, h1.1 _ (List.getLast_mem hne)⟩
  | p :: q :: r, _, h => by
    obtain ⟨t, b, h1, h2⟩ := joinL_last (q :: r) (by simp) (fun x hx => h x (by simp only [List.mem_cons] at hx ⊢; exact .inr hx))
    exact ⟨p ++ 32 :: t, b, by simp [joinL, h1], h2⟩

theorem isLow_spec {c : UInt8} (h : isLow c = true) : 97 ≤ c.toNat ∧ c.toNat ≤ 122 := by simpa [isLow] using h
theorem isLow_sp {c : UInt8} (h : isLow c = true) : Lib.isSp c = false ∧ c.toNat < 128 := by
  have h1 := isLow_spec h
  refine ⟨?_, by omega⟩
  cases hs : Lib.isSp c with
  | false => rfl
  | true =>
    simp only [Lib.isSp, Bool.or_eq_true, beq_iff_eq] at hs
    rcases hs with ((((rfl | rfl) | rfl) | rfl) | rfl) | rfl <;> simp at h1

theorem trim_ends {l : List UInt8} (h1 : ∃ a r, l = a :: r ∧ isLow a = true) (h2 : ∃ t b, l = t ++ [b] ∧ isLow b = true) : Lib.trimSpaceD l = l := by
  obtain ⟨a, r, ha, hla⟩ := h1
  obtain ⟨t, b, hb, hlb⟩ := h2
  have e1 : Lib.trimLeftD l.length l = l := by
    rw [ha]
    exact Lib.left_stop r.length a r (isLow_sp hla).1 (isLow_sp hla).2
  unfold Lib.trimSpaceD
  rw [e1]
  obtain ⟨n, hn⟩ : ∃ n, l.length = n + 1 := ⟨l.length - 1, by rw [ha]; simp⟩
  rw [hn, hb]
  exact Lib.right_stop n t b (isLow_sp hlb).1 (isLow_sp hlb).2

theorem words_trim {l : List UInt8} (h : wordsB l = true) : Lib.trimSpaceD l = l := by
  have hp := wordsP_of h
  refine trim_ends ?_ ?_
  · obtain ⟨a, r, h1, h2⟩ := joinL_head _ hp.ne hp.low
    exact ⟨a, r, hp.join.trans h1, h2⟩
  · obtain ⟨a, r, h1, h2⟩ := joinL_last _ hp.ne hp.low
    exact ⟨a, r, hp.join.trans h1, h2⟩
theorem words_ne {l : List UInt8} (h : wordsB l = true) : l ≠ [] := by
  have hp := wordsP_of h
  obtain ⟨a, r, h1, h2⟩ := joinL_head _ hp.ne hp.low
  intro e
  have := hp.join.trans h1
  rw [e] at this
  cases this
theorem words_len {l : List UInt8} (h : wordsB l = true) : l.length ≤ 270 := by
  have hp := wordsP_of h
  have h1 := joinL_len _ hp.low
  have h2 := hp.few
  have h3 := congrArg List.length hp.join
  omega
theorem words_mem {l : List UInt8} (h : wordsB l = true) : ∀ c ∈ l, isLow c = true ∨ c = 32 := by
  have hp := wordsP_of h
  intro c hc
  exact joinL_mem _ hp.low c (hp.join ▸ hc)

end Go.Proofs.YtmjeokabbmigjaaDoor
