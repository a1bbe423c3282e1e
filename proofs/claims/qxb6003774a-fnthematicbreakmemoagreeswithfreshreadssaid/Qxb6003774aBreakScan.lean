import Derived.Test.Qxb6003774aBreakLeaves
namespace Go.Proofs.Qxb6003774a
open Go.RowKit

/-- The call answers a bool: whether r. -/
def Says (e : Ending) (r : Prop) : Prop := ∃ b : Bool, e = .returned (.bool b) ∧ (b = true ↔ r)

/-- The byte at which the scan begins. -/
def mk (L : List Int) (nx : Nat) : Int := L.getD nx 0

theorem stops_mark {m x : Int} (h : x = m) : stops m x = false := by simp [stops, h]
theorem stops_bl {m x : Int} (h : isBl x = true) : stops m x = false := by simp [stops, h]
theorem stops_yes {m x : Int} (h : ¬ x = m) (h' : isBl x = false) : stops m x = true := by simp [stops, h, h']

/-- Which of the three marks. -/
theorem mark_cases {m : Int} (h : isMark m = true) : m = 42 ∨ m = 45 ∨ m = 95 := by
  simp only [isMark, Bool.or_eq_true, beq_iff_eq] at h
  omega
theorem not_mark {m : Int} (h : isMark m = false) : (m != 42) = true ∧ (m != 45) = true ∧ (m != 95) = true := by
  simp only [isMark, Bool.or_eq_false_iff, beq_eq_false_iff_ne] at h
  exact ⟨by simpa using h.1.1, by simpa using h.1.2, by simpa using h.2⟩

/-- THE SCAN's END: the whole line was read. -/
theorem brk_end {L : List Int} {n nx i : Nat} {m : Int} (em : mk L nx = m) (hm : isMark m = true) (hi : i = n - nx) (hc : clean L (mk L nx) nx i) : (decide (3 ≤ (cnt L (mk L nx) nx i : Int)) = true ↔ Brk L n nx) := by
  subst hi
  rw [← em] at hm
  unfold Brk
  simp only [decide_eq_true_eq]
  constructor
  · intro h; exact ⟨hm, hc, by have : 3 ≤ cnt L (mk L nx) nx (n - nx) := by omega
                               exact this⟩
  · intro h; have : 3 ≤ cnt L (mk L nx) nx (n - nx) := h.2.2; omega
/-- THE SCAN's END: a byte stopped it. -/
theorem brk_stop {L : List Int} {n nx i : Nat} {m x : Int} (em : mk L nx = m) (hi : i < n - nx) (ex : L.getD (nx + i) 0 = x) (hs : stops m x = true) : (false = true ↔ Brk L n nx) := by
  constructor
  · intro h; cases h
  · intro h
    have h2 := h.2.1 i hi
    have em' : L.getD nx 0 = m := em
    rw [em', ex, hs] at h2; cases h2
theorem brk_nomark {L : List Int} {n nx : Nat} {m : Int} (em : mk L nx = m) (hm : isMark m = false) : (false = true ↔ Brk L n nx) := by
  constructor
  · intro h; cases h
  · intro h
    have h2 := h.1
    have em' : L.getD nx 0 = m := em
    rw [em', hm] at h2; cases h2

theorem cnt_hit {L : List Int} {m : Int} {nx i : Nat} {x : Int} (em : mk L nx = m) (ex : L.getD (nx + i) 0 = x) (h : x = m) : cnt L (mk L nx) nx (i + 1) = cnt L (mk L nx) nx i + 1 := by
  rw [cnt, ex, em, h]; simp
theorem cnt_miss {L : List Int} {m : Int} {nx i : Nat} {x : Int} (em : mk L nx = m) (ex : L.getD (nx + i) 0 = x) (h : ¬ x = m) : cnt L (mk L nx) nx (i + 1) = cnt L (mk L nx) nx i := by
  rw [cnt, ex, em]; simp [h]
theorem clean_step {L : List Int} {m : Int} {nx i : Nat} {x : Int} (em : mk L nx = m) (ex : L.getD (nx + i) 0 = x) (hc : clean L (mk L nx) nx i) (h : stops m x = false) : clean L (mk L nx) nx (i + 1) :=
  clean_succ hc (by rw [ex, em]; exact h)

set_option maxHeartbeats 400000 in
theorem spec_any (L : List Int) (g n nx : Nat) (w : World) (hn : n ≤ 1048576) (hx : nx < n) (hL : ∀ j, j < n → w.cell? ⟨g, j, none⟩ = some (.int .u8 (L.getD j 0))) (hb : ∀ j, 0 ≤ L.getD j 0 ∧ L.getD j 0 ≤ 255) :
    Calls Try.prog 12 #[.slice (some ⟨g, nx, none⟩) (n - nx) (n - nx)] w fun e w' => Says e (Brk L n nx) ∧ w' = w := by
  obtain ⟨m, em⟩ : ∃ m, mk L nx = m := ⟨_, rfl⟩
  have hm : w.cell? ⟨g, nx, none⟩ = some (.int .u8 (mk L nx)) := hL nx hx
  have hmb : 0 ≤ mk L nx ∧ mk L nx ≤ 255 := hb nx
  rw [em] at hm hmb
  have EM : Hid (mk L nx = m) := em
  have HL : Hid (∀ j, j < n → w.cell? ⟨g, j, none⟩ = some (.int .u8 (L.getD j 0))) := hL
  have HB : Hid (∀ j, 0 ≤ L.getD j 0 ∧ L.getD j 0 ≤ 255) := hb
  clear em hL hb
  have h0 : (((n - nx : Nat) : Int) == 0) = false := by simp; omega
  cases hmk : isMark m
  · obtain ⟨t1, t2, t3⟩ := not_mark hmk
    have M : Hid (isMark m = false) := hmk
    clear hmk
    go_enter Try.func12, Try.ntmps12
    go_wp2
    go_ret
    exact ⟨⟨_, rfl, brk_nomark EM.out M.out⟩, rfl⟩
  · have M : Hid (isMark m = true) := hmk
    rcases mark_cases hmk with rfl | rfl | rfl
    all_goals
      clear hmk
      go_enter Try.func12, Try.ntmps12
      go_wp2
      go_loop [4, 5] (fun c k => ∃ i : Nat, i ≤ n - nx ∧ k = .int .i64 i ∧ c = .int .i64 (cnt L (mk L nx) nx i) ∧ clean L (mk L nx) nx i) (fun _ k => n - nx - (intOf k).toNat)
      case atStart => exact ⟨0, Nat.zero_le _, rfl, rfl, clean_zero _ _ _⟩
      case round =>
        obtain ⟨i, hi, rfl, rfl, hc⟩ := hrel
        have hcl := cnt_le L (mk L nx) nx i
        by_cases hlt : i < n - nx
        · obtain ⟨x, ex⟩ : ∃ x, L.getD (nx + i) 0 = x := ⟨_, rfl⟩
          have hxc := HL.out (nx + i) (by omega)
          have hxb := HB.out (nx + i)
          rw [ex] at hxc hxb
          have EX : Hid (L.getD (nx + i) 0 = x) := ex
          clear ex
          by_cases hxm : x = mk L nx
          · rw [EM.out] at hxm
            subst hxm
            go_wp2
            go_round
            case rel => exact ⟨i + 1, by omega, by go_num, by rw [cnt_hit EM.out EX.out rfl]; go_num, clean_step EM.out EX.out hc (stops_mark rfl)⟩
            case measure => simp [intOf]; omega
          · rw [EM.out] at hxm
            cases hxs : isBl x
            · go_wp2_with (go_at_call 20; refine (blank_any _ _).mono ?_; rintro e w' ⟨rfl, rfl⟩)
              go_ret
              exact ⟨⟨_, rfl, brk_stop EM.out hlt EX.out (stops_yes hxm hxs)⟩, rfl⟩
            · go_wp2_with (go_at_call 20; refine (blank_any _ _).mono ?_; rintro e w' ⟨rfl, rfl⟩)
              go_round
              case rel => exact ⟨i + 1, by omega, by go_num, by rw [cnt_miss EM.out EX.out hxm], clean_step EM.out EX.out hc (stops_bl hxs)⟩
              case measure => simp [intOf]; omega
        · go_wp2
          go_ret
          exact ⟨⟨_, rfl, brk_end EM.out M.out (by omega) hc⟩, rfl⟩
end Go.Proofs.Qxb6003774a
