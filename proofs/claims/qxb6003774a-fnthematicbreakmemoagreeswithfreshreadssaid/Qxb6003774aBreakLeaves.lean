import Derived.Test.Qxb6003774aBreakClone
import Derived.Test.Qxb6003774aBreakPlain
namespace Go.Proofs.Qxb6003774a
open Go.RowKit

set_option maxHeartbeats 400000 in
theorem bytes_any (a1 : Option Addr) (l1 c1 : Nat) (a2 : Option Addr) (l2 c2 : Nat) (w : World) (h1 : l1 ≤ maxLen) (h2 : l2 ≤ maxLen) :
    Calls Try.prog 6 #[.slice a1 l1 c1, .slice a2 l2 c2] w fun e w' => ∃ b : Bool, e = .returned (.bool b) ∧ w' = w := by
  unfold maxLen at h1 h2
  go_enter Try.func6, Try.ntmps6
  go_wp2
  all_goals
    go_ret
    exact ⟨_, rfl, rfl⟩

set_option maxHeartbeats 400000 in
theorem blank_any (b : Int) (w : World) : Calls Try.prog 20 #[.int .u8 b] w fun e w' => e = .returned (.bool (isBl b)) ∧ w' = w := by
  by_cases h : b = 32
  · subst h
    go_enter Try.func20, Try.ntmps20
    go_wp2
    go_ret
    exact ⟨rfl, rfl⟩
  · have h' : (b == 32) = false := by simpa using h
    have e : isBl b = (b == 9) := by unfold isBl; rw [h']; rfl
    rw [e]
    go_enter Try.func20, Try.ntmps20
    go_wp2
    go_ret
    exact ⟨rfl, rfl⟩

set_option maxHeartbeats 400000 in
theorem isBlank_any (b : Int) (w : World) : Calls Try.prog 24 #[.int .i32 b] w fun e w' => e = .returned (.bool (isBl b)) ∧ w' = w := by
  by_cases h : b = 32
  · subst h
    go_enter Try.func24, Try.ntmps24
    go_wp2
    go_ret
    exact ⟨rfl, rfl⟩
  · have h' : (b == 32) = false := by simpa using h
    have e : isBl b = (b == 9) := by unfold isBl; rw [h']; rfl
    rw [e]
    go_enter Try.func24, Try.ntmps24
    go_wp2
    go_ret
    exact ⟨rfl, rfl⟩

/-- The block of a cursor over the n bytes at block g: of its eight cells the first, the fourth ('next') and the last ('noBreak') matter. -/
def CAt (w : World) (b g n : Nat) (nx nb : Int) : Prop :=
  w.heap[b]? = some (.cells #[.slice (some ⟨g, 0, none⟩) n n, .int .i64 0, .int .i64 0, .int .i64 nx, .int .i64 0, .int .i64 0, .bool false, .int .i64 nb] 38 (0, 0))
theorem CAt.lt {w : World} {b g n : Nat} {nx nb : Int} (h : CAt w b g n nx nb) : b < w.heap.size := lt_of_block h
theorem CAt.c0 {w : World} {b g n : Nat} {nx nb : Int} (h : CAt w b g n nx nb) : w.cell? ⟨b, 0, none⟩ = some (.slice (some ⟨g, 0, none⟩) n n) := by unfold CAt at h; simp [World.cell?, h]
theorem CAt.c3 {w : World} {b g n : Nat} {nx nb : Int} (h : CAt w b g n nx nb) : w.cell? ⟨b, 3, none⟩ = some (.int .i64 nx) := by unfold CAt at h; simp [World.cell?, h]
theorem CAt.c7 {w : World} {b g n : Nat} {nx nb : Int} (h : CAt w b g n nx nb) : w.cell? ⟨b, 7, none⟩ = some (.int .i64 nb) := by unfold CAt at h; simp [World.cell?, h]
theorem CAt.fr {w : World} {b g n : Nat} {nx nb : Int} (h : CAt w b g n nx nb) (o : Nat) : w.frozen? ⟨b, o, none⟩ = false := by unfold CAt at h; simp [World.frozen?, h]
theorem CAt.drewN {w : World} {b g n : Nat} {nx nb : Int} (h : CAt w b g n nx nb) (q : Nat) : CAt (w.drewN q) b g n nx nb := h
theorem block_setCell {w : World} {b : Nat} {cs : Array Value} {t : TypeId} {q : Nat × Nat} (h : w.heap[b]? = some (.cells cs t q)) (o : Nat) (u : Value) :
    (w.setCell ⟨b, o, none⟩ u).heap[b]? = some (.cells (cs.setIfInBounds o u) t q) := by
  have hlt := lt_of_block h
  have h' : w.heap[b] = .cells cs t q := by simpa [Array.getElem?_eq_getElem hlt] using h
  show (w.heap.modify b _)[b]? = _
  rw [Array.getElem?_eq_getElem (by simpa using hlt), Array.getElem_modify_self, h']
  rfl
theorem CAt.s3 {w : World} {b g n : Nat} {nx nb : Int} (h : CAt w b g n nx nb) (x : Int) : CAt (w.setCell ⟨b, 3, none⟩ (.int .i64 x)) b g n x nb := by
  unfold CAt at *; rw [block_setCell h]; rfl
theorem CAt.s7 {w : World} {b g n : Nat} {nx nb : Int} (h : CAt w b g n nx nb) (x : Int) : CAt (w.setCell ⟨b, 7, none⟩ (.int .i64 x)) b g n nx x := by
  unfold CAt at *; rw [block_setCell h]; rfl
theorem CAt.below {w w' : World} {b g n : Nat} {nx nb : Int} (h : CAt w b g n nx nb) (hb : Below w.heap.size w w') : CAt w' b g n nx nb := by
  have := h.lt
  unfold CAt at *
  rw [hb.block b this]; exact h

set_option maxHeartbeats 400000 in
theorem newCursor_any (g n : Nat) (nx : Int) (w : World) :
    Calls Try.prog 9 #[.slice (some ⟨g, 0, none⟩) n n, .int .i64 0, .int .i64 0, .int .i64 nx] w fun e w' => e = .returned (.pointer (some ⟨w.heap.size, 0, none⟩)) ∧ CAt w' w.heap.size g n nx 0 ∧ Below w.heap.size w w' := by
  go_enter Try.func9, Try.ntmps9
  go_wp2
  go_ret
  exact ⟨rfl, heap_alloc_new _ _, (Below.refl _ _).alloc (Nat.le_refl _) _⟩

set_option maxHeartbeats 400000 in
theorem newCursor_nil (a : Option Addr) (n : Nat) (nx : Int) (w : World) :
    Calls Try.prog 9 #[.slice a n n, .int .i64 0, .int .i64 0, .int .i64 nx] w fun e w' => e = .returned (.pointer (some ⟨w.heap.size, 0, none⟩)) ∧ Below w.heap.size w w' := by
  go_enter Try.func9, Try.ntmps9
  go_wp2
  go_ret
  exact ⟨rfl, (Below.refl _ _).alloc (Nat.le_refl _) _⟩

set_option maxHeartbeats 400000 in
theorem setNext_any (b g n : Nat) (nx nb x : Int) (w : World) (h : CAt w b g n nx nb) :
    Calls Try.prog 10 #[.pointer (some ⟨b, 0, none⟩), .int .i64 x] w fun e w' => e = .returned (.tuple #[]) ∧ CAt w' b g n x nb ∧ Below b w w' := by
  have c3 := h.c3
  have f3 := h.fr 3
  go_enter Try.func10, Try.ntmps10
  go_wp2
  go_end0
  exact ⟨rfl, h.s3 _, (Below.refl _ _).setCell (p := ⟨b, 3, none⟩) (Nat.le_refl _) _⟩

set_option maxHeartbeats 400000 in
theorem rest_any (b g n nx : Nat) (nb : Int) (w : World) (h : CAt w b g n nx nb) (_hn : n ≤ 1048576) (hx : nx < n) :
    Calls Try.prog 23 #[.pointer (some ⟨b, 0, none⟩)] w fun e w' => e = .returned (.slice (some ⟨g, nx, none⟩) (n - nx) (n - nx)) ∧ CAt w' b g n nx nb ∧ ∃ q, w' = w.drewN q := by
  have c0 := h.c0
  have c3 := h.c3
  go_enter Try.func23, Try.ntmps23
  go_wp2
  go_quiet (fail)
  go_wp2
  go_ret
  exact ⟨rfl, h.drewN _, _, rfl⟩
end Go.Proofs.Qxb6003774a
