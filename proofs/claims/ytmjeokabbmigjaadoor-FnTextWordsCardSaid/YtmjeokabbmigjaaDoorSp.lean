/-
  The reference's words on texts, in plain Lean: parts between a sign, words, lines, sentences.
-/
namespace Go.Proofs.YtmjeokabbmigjaaDoor

/-- The parts of a text between all signs c. -/
def splitL (c : UInt8) : List UInt8 → List (List UInt8)
  | [] => [[]]
  | x :: xs => if x = c then [] :: splitL c xs else (match splitL c xs with | h :: t => (x :: h) :: t | [] => [[x]])

theorem splitL_ne (c : UInt8) (l : List UInt8) : splitL c l ≠ [] := by
  cases l with
  | nil => simp [splitL]
  | cons x xs =>
    simp only [splitL]
    split
    · simp
    · split <;> simp

theorem splitL_none {c : UInt8} {p : List UInt8} (h : ∀ x ∈ p, x ≠ c) : splitL c p = [p] := by
  induction p with
  | nil => rfl
  | cons x xs ih =>
    have h1 := ih (fun y hy => h y (by simp [hy]))
    have h2 : x ≠ c := h x (by simp)
    simp [splitL, h1, h2]

theorem splitL_at {c : UInt8} {p r : List UInt8} (h : ∀ x ∈ p, x ≠ c) : splitL c (p ++ c :: r) = p :: splitL c r := by
  induction p with
  | nil => simp [splitL]
  | cons x xs ih =>
    have h1 := ih (fun y hy => h y (by simp [hy]))
    have h2 : x ≠ c := h x (by simp)
    simp [splitL, h1, h2]

theorem splitL_length (c : UInt8) (l : List UInt8) : (splitL c l).length ≤ l.length + 1 := by
  induction l with
  | nil => simp [splitL]
  | cons x xs ih =>
    simp only [splitL]
    split
    · simp; omega
    · split
      · rename_i h t he
        rw [he] at ih
        simp at ih ⊢
        omega
      · simp

/-- What stood between: the parts, joined. -/
def joinL (c : UInt8) : List (List UInt8) → List UInt8
  | [] => []
  | [p] => p
  | p :: q :: r => p ++ c :: joinL c (q :: r)

theorem joinL_splitL (c : UInt8) (l : List UInt8) : joinL c (splitL c l) = l := by
  induction l with
  | nil => rfl
  | cons x xs ih =>
    simp only [splitL]
    split
    · rename_i hx
      subst hx
      cases h : splitL x xs with
      | nil => exact (splitL_ne x xs h).elim
      | cons a b =>
        rw [h] at ih
        simp only [joinL, List.nil_append]
        rw [ih]
    · cases h : splitL c xs with
      | nil => exact (splitL_ne c xs h).elim
      | cons a b =>
        rw [h] at ih
        simp only
        cases b with
        | nil => simp only [joinL] at ih ⊢; rw [ih]
        | cons a2 b2 => simp only [joinL, List.cons_append] at ih ⊢; rw [ih]

theorem splitL_free (c : UInt8) (l : List UInt8) : ∀ p ∈ splitL c l, ∀ x ∈ p, x ≠ c := by
  induction l with
  | nil => simp [splitL]
  | cons x xs ih =>
    simp only [splitL]
    split
    · intro p hp
      rcases List.mem_cons.1 hp with rfl | hp
      · simp
      · exact ih p hp
    · rename_i hx
      cases h : splitL c xs with
      | nil => exact (splitL_ne c xs h).elim
      | cons a b =>
        rw [h] at ih
        intro p hp
        simp only at hp
        rcases List.mem_cons.1 hp with rfl | hp
        · intro y hy
          rcases List.mem_cons.1 hy with rfl | hy
          · exact hx
          · exact ih a (by simp) y hy
        · exact ih p (by simp [hp])

def isLow (c : UInt8) : Bool := 97 ≤ c.toNat && c.toNat ≤ 122
/-- 1 to 8 small letters. -/
def lowerB (l : List UInt8) : Bool := l.all isLow && (1 ≤ l.length && l.length ≤ 8)
/-- 1 to 30 such words with a blank between them. -/
def wordsB (l : List UInt8) : Bool := (splitL 32 l).all lowerB && (splitL 32 l).length ≤ 30
/-- Such words with a point behind them. -/
def sentB (l : List UInt8) : Bool := (l.getLast? == some 46) && wordsB l.dropLast
/-- 1 to 6 lines of such words. -/
def linesB (l : List UInt8) : Bool := (l.getLast? == some 10) && ((splitL 10 l.dropLast).all wordsB && (splitL 10 l.dropLast).length ≤ 6)
/-- One of some signs stands in a text. -/
def anyB (l signs : List UInt8) : Bool := l.any fun c => signs.any fun d => c == d

end Go.Proofs.YtmjeokabbmigjaaDoor
