/- THE PLAIN LAW OF THE MEMO: no Go in sight. A line is a list of numbers; its bytes from a place on. -/
namespace Go.Proofs.Qxb6003774a

def isMark (m : Int) : Bool := m == 42 || m == 45 || m == 95
def isBl (b : Int) : Bool := b == 32 || b == 9

/-- A byte that stops the scan for the mark m. -/
def stops (m b : Int) : Bool := !(b == m) && !isBl b

/-- How many of the bytes at places nx .. nx + i - 1 are m. -/
def cnt (L : List Int) (m : Int) (nx i : Nat) : Nat := match i with
  | 0 => 0
  | i + 1 => cnt L m nx i + if L.getD (nx + i) 0 == m then 1 else 0

/-- None of the bytes at places nx .. nx + i - 1 stops the scan. -/
def clean (L : List Int) (m : Int) (nx i : Nat) : Prop := ∀ j, j < i → stops m (L.getD (nx + j) 0) = false

theorem cnt_le (L : List Int) (m : Int) (nx i : Nat) : cnt L m nx i ≤ i := by
  induction i with
  | zero => simp [cnt]
  | succ i ih => unfold cnt; split <;> omega

theorem clean_zero (L : List Int) (m : Int) (nx : Nat) : clean L m nx 0 := fun j h => absurd h (Nat.not_lt_zero j)
theorem clean_succ {L : List Int} {m : Int} {nx i : Nat} (h : clean L m nx i) (hs : stops m (L.getD (nx + i) 0) = false) : clean L m nx (i + 1) := by
  intro j hj
  by_cases e : j = i
  · subst e; exact hs
  · exact h j (by omega)

/-- THE ANSWER: is the line from nx on (n bytes in all) a thematic break? -/
def Brk (L : List Int) (n nx : Nat) : Prop := isMark (L.getD nx 0) = true ∧ clean L (L.getD nx 0) nx (n - nx) ∧ 3 ≤ cnt L (L.getD nx 0) nx (n - nx)

/-- WHAT THE MEMO KNOWS: nothing; or a byte at place nb that stopped a scan which began at a place before 'lim'. -/
def Memo (L : List Int) (n lim nb : Nat) : Prop :=
  nb = 0 ∨ ∃ s i, s < lim ∧ nb = s + i ∧ nb < n ∧ isMark (L.getD s 0) = true ∧ clean L (L.getD s 0) s i ∧ stops (L.getD s 0) (L.getD nb 0) = true

theorem memo_mono {L : List Int} {n lim lim' nb : Nat} (h : Memo L n lim nb) (hl : lim ≤ lim') : Memo L n lim' nb := by
  rcases h with h | ⟨s, i, h1, h⟩
  · exact .inl h
  · exact .inr ⟨s, i, by omega, h⟩

theorem mark_not_bl {m : Int} (h : isMark m = true) : isBl m = false := by
  simp only [isMark, isBl, Bool.or_eq_true, beq_iff_eq, Bool.or_eq_false_iff, beq_eq_false_iff_ne] at *
  omega

/-- THE MEMO NEVER CHANGES AN ANSWER: at a place behind the scan's start and before the stop no break starts. -/
theorem memo_no {L : List Int} {n lim nb nx : Nat} (h : Memo L n lim nb) (hl : lim ≤ nx) (hn : nx < nb) : ¬ Brk L n nx := by
  intro ⟨b1, b2, _⟩
  rcases h with h | ⟨s, i, h1, h2, h3, h4, h5, h6⟩
  · omega
  · have e := h5 (nx - s) (by omega)
    rw [show s + (nx - s) = nx by omega] at e
    have hm : L.getD nx 0 = L.getD s 0 := by
      have hb := mark_not_bl b1
      unfold stops at e
      rw [hb] at e
      simpa using e
    have e2 := b2 (nb - nx) (by omega)
    rw [show nx + (nb - nx) = nb by omega, hm, h6] at e2
    simp at e2

end Go.Proofs.Qxb6003774a
