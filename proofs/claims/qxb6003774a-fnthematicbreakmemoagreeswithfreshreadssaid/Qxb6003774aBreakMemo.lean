import Derived.Test.Qxb6003774aBreakScan
namespace Go.Proofs.Qxb6003774a
open Go.RowKit

/-- What a read leaves in the cursor: 'noBreak' as it was, or a place that stopped this very scan. -/
def Leaves (L : List Int) (w w' : World) (b g n nx nb : Nat) : Prop := ∃ nb' : Nat, CAt w' b g n nx nb' ∧ (nb' = nb ∨ Memo L n (nx + 1) nb') ∧ Below b w w'

theorem Leaves.same {L : List Int} {w w' : World} {b g n nx nb : Nat} (h : CAt w' b g n nx nb) (hb : Below b w w') : Leaves L w w' b g n nx nb := ⟨nb, h, .inl rfl, hb⟩

set_option maxHeartbeats 400000 in
/-- The memo answers: no scan. -/
theorem thematic_memo (L : List Int) (b g n nx nb : Nat) (w : World) (h : CAt w b g n nx nb) (hn : n ≤ 1048576) (hx : nx < n) (hL : w.cell? ⟨g, nx, none⟩ = some (.int .u8 (L.getD nx 0))) (hlt : nx < nb) :
    Calls Try.prog 19 #[.pointer (some ⟨b, 0, none⟩)] w fun e w' => e = .returned (.bool false) ∧ Leaves L w w' b g n nx nb := by
  have c3 := h.c3
  have c7 := h.c7
  obtain ⟨m, em⟩ : ∃ m, L.getD nx 0 = m := ⟨_, rfl⟩
  rw [em] at hL
  clear em
  go_enter Try.func19, Try.ntmps19
  go_wp2_with (go_at_call 23; refine (rest_any b g n nx nb _ h hn hx).mono ?_; rintro e w1 ⟨rfl, h1, q, rfl⟩)
  go_quiet (fail)
  go_wp2
  go_ret
  exact ⟨rfl, Leaves.same ((h.drewN _).drewN _) (below_drewN (below_drewN (Below.refl _ _) _) _)⟩

theorem leaves_stop {L : List Int} {w w' : World} {b g n nx nb i : Nat} {m x : Int} (em : mk L nx = m) (hm : isMark m = true) (ex : L.getD (nx + i) 0 = x) (hs : stops m x = true) (hi : i < n - nx) (hc : clean L (mk L nx) nx i)
    (h : CAt w' b g n nx ((nx : Int) + i)) (hb : Below b w w') : Leaves L w w' b g n nx nb := by
  refine ⟨nx + i, ?_, .inr (.inr ⟨nx, i, by omega, rfl, by omega, ?_, hc, ?_⟩), hb⟩
  · have e : (((nx + i : Nat) : Int)) = (nx : Int) + i := by omega
    rw [e]; exact h
  · have em' : L.getD nx 0 = m := em
    rw [em']; exact hm
  · have em' : L.getD nx 0 = m := em
    rw [em', ex]; exact hs

set_option maxHeartbeats 800000 in
/-- The scan. -/
theorem thematic_scan (L : List Int) (b g n nx nb : Nat) (w : World) (h : CAt w b g n nx nb) (hn : n ≤ 1048576) (hx : nx < n) (hL : ∀ j, j < n → w.cell? ⟨g, j, none⟩ = some (.int .u8 (L.getD j 0))) (hb : ∀ j, 0 ≤ L.getD j 0 ∧ L.getD j 0 ≤ 255) (hle : nb ≤ nx) :
    Calls Try.prog 19 #[.pointer (some ⟨b, 0, none⟩)] w fun e w' => Says e (Brk L n nx) ∧ Leaves L w w' b g n nx nb := by
  have c3 := h.c3
  have c7 := h.c7
  have f7 := h.fr 7
  obtain ⟨m, em⟩ : ∃ m, mk L nx = m := ⟨_, rfl⟩
  have hm : w.cell? ⟨g, nx, none⟩ = some (.int .u8 (mk L nx)) := hL nx hx
  have hmb : 0 ≤ mk L nx ∧ mk L nx ≤ 255 := hb nx
  rw [em] at hm hmb
  have EM : Hid (mk L nx = m) := em
  have HL : Hid (∀ j, j < n → w.cell? ⟨g, j, none⟩ = some (.int .u8 (L.getD j 0))) := hL
  have HB : Hid (∀ j, 0 ≤ L.getD j 0 ∧ L.getD j 0 ≤ 255) := hb
  clear em hL hb
  have hd : decide (nx < nb) = false := by simpa using hle
  cases hmk : isMark m
  · obtain ⟨t1, t2, t3⟩ := not_mark hmk
    have M : Hid (isMark m = false) := hmk
    clear hmk
    go_enter Try.func19, Try.ntmps19
    go_wp2_with (go_at_call 23; refine (rest_any b g n nx nb _ h hn hx).mono ?_; rintro e w1 ⟨rfl, h1, q, rfl⟩)
    go_quiet (fail)
    go_wp2
    go_ret
    exact ⟨⟨_, rfl, brk_nomark EM.out M.out⟩, Leaves.same ((h.drewN _).drewN _) (below_drewN (below_drewN (Below.refl _ _) _) _)⟩
  · have M : Hid (isMark m = true) := hmk
    rcases mark_cases hmk with rfl | rfl | rfl
    all_goals
      clear hmk
      go_enter Try.func19, Try.ntmps19
      go_wp2_with (go_at_call 23; refine (rest_any b g n nx nb _ h hn hx).mono ?_; rintro e w1 ⟨rfl, h1, q, rfl⟩)
      go_quiet (fail)
      go_wp2
      go_loopw [5, 36] (fun c k wr => ∃ i qq : Nat, i ≤ n - nx ∧ k = .int .i64 i ∧ c = .int .i64 (cnt L (mk L nx) nx i) ∧ clean L (mk L nx) nx i ∧ wr = w.drewN qq) (fun _ k _ => n - nx - (intOf k).toNat)
      case atStart => exact ⟨0, _, Nat.zero_le _, rfl, rfl, clean_zero _ _ _, rfl⟩
      case round =>
        obtain ⟨i, qq, hi, rfl, rfl, hc, rfl⟩ := hrel
        have hcl := cnt_le L (mk L nx) nx i
        by_cases hlt : i < n - nx
        · obtain ⟨x, ex⟩ : ∃ x, L.getD (nx + i) 0 = x := ⟨_, rfl⟩
          have hxc := HL.out (nx + i) (by omega)
          have hxb := HB.out (nx + i)
          rw [ex] at hxc hxb
          have EX : Hid (L.getD (nx + i) 0 = x) := ex
          clear ex
          by_cases hxm : x = mk L nx
          · rw [EM.out] at hxm
            subst hxm
            go_wp2
            go_roundw
            case rel => exact ⟨i + 1, _, by omega, by go_num, by rw [cnt_hit EM.out EX.out rfl]; go_num, clean_step EM.out EX.out hc (stops_mark rfl), rfl⟩
            case measure => simp [intOf]; omega
          · rw [EM.out] at hxm
            cases hxs : isBl x
            · go_wp2_with (go_at_call 24; refine (isBlank_any _ _).mono ?_; rintro e w' ⟨rfl, rfl⟩)
              go_ret
              exact ⟨⟨_, rfl, brk_stop EM.out hlt EX.out (stops_yes hxm hxs)⟩, leaves_stop EM.out M.out EX.out (stops_yes hxm hxs) hlt hc ((h.drewN _).s7 _) ((below_drewN (Below.refl _ _) _).setCell (p := ⟨b, 7, none⟩) (Nat.le_refl _) _)⟩
            · go_wp2_with (go_at_call 24; refine (isBlank_any _ _).mono ?_; rintro e w' ⟨rfl, rfl⟩)
              go_roundw
              case rel => exact ⟨i + 1, _, by omega, by go_num, by rw [cnt_miss EM.out EX.out hxm], clean_step EM.out EX.out hc (stops_bl hxs), rfl⟩
              case measure => simp [intOf]; omega
        · go_wp2
          go_ret
          exact ⟨⟨_, rfl, brk_end EM.out M.out (by omega) hc⟩, Leaves.same (h.drewN _) (below_drewN (Below.refl _ _) _)⟩

/-- One read, whatever the memo holds: THE ANSWER IS THE FRESH ONE. -/
theorem thematic_any (L : List Int) (b g n nx nb lim : Nat) (w : World) (h : CAt w b g n nx nb) (hn : n ≤ 1048576) (hx : nx < n) (hL : ∀ j, j < n → w.cell? ⟨g, j, none⟩ = some (.int .u8 (L.getD j 0))) (hb : ∀ j, 0 ≤ L.getD j 0 ∧ L.getD j 0 ≤ 255)
    (hM : Memo L n lim nb) (hl : lim ≤ nx) :
    Calls Try.prog 19 #[.pointer (some ⟨b, 0, none⟩)] w fun e w' => Says e (Brk L n nx) ∧ Leaves L w w' b g n nx nb := by
  by_cases hlt : nx < nb
  · refine (thematic_memo L b g n nx nb w h hn hx (hL nx hx) hlt).mono ?_
    rintro e w' ⟨rfl, hl'⟩
    exact ⟨⟨false, rfl, by constructor
                           · intro h; cases h
                           · intro h; exact absurd h (memo_no hM hl hlt)⟩, hl'⟩
  · exact thematic_scan L b g n nx nb w h hn hx hL hb (by omega)

set_option maxHeartbeats 400000 in
theorem zzThematic_any (L : List Int) (b g n nx nb lim : Nat) (w : World) (h : CAt w b g n nx nb) (hn : n ≤ 1048576) (hx : nx < n) (hL : ∀ j, j < n → w.cell? ⟨g, j, none⟩ = some (.int .u8 (L.getD j 0))) (hb : ∀ j, 0 ≤ L.getD j 0 ∧ L.getD j 0 ≤ 255)
    (hM : Memo L n lim nb) (hl : lim ≤ nx) :
    Calls Try.prog 11 #[.pointer (some ⟨b, 0, none⟩)] w fun e w' => Says e (Brk L n nx) ∧ Leaves L w w' b g n nx nb := by
  go_enter Try.func11, Try.ntmps11
  go_wp2_with fail
  refine (thematic_any L b g n nx nb lim _ h hn hx hL hb hM hl).mono ?_
  rintro e w' ⟨⟨r, rfl, hr⟩, hl'⟩
  clear hL hb
  go_wp2
  go_ret
  exact ⟨⟨r, rfl, hr⟩, hl'⟩

end Go.Proofs.Qxb6003774a
