import Derived.Test.Qxb6003774aBreakMemo
namespace Go.Proofs.Qxb6003774a
open Go.RowKit

/-- The offsets read so far: each inside the line, each behind the one before. -/
def Inc (z : List Int) (n k : Nat) : Prop := ∀ j, j < k → 0 ≤ z.getD j 0 ∧ z.getD j 0 < n ∧ (0 < j → z.getD (j - 1) 0 < z.getD j 0)

theorem inc_zero (z : List Int) (n : Nat) : Inc z n 0 := fun j h => absurd h (Nat.not_lt_zero j)
theorem inc_succ {z : List Int} {n k : Nat} (h : Inc z n k) (h0 : 0 ≤ z.getD k 0) (h1 : z.getD k 0 < n) (h2 : 0 < k → z.getD (k - 1) 0 < z.getD k 0) : Inc z n (k + 1) := by
  intro j hj
  by_cases e : j = k
  · subst e; exact ⟨h0, h1, h2⟩
  · exact h j (by omega)

theorem isRow_at {k : IntKind} {w : World} {a : Option Addr} {len cap : Nat} {zs : List Int} (h : IsRow k w a len cap zs) {j : Nat} (hj : j < len) :
    ∃ b off, a = some ⟨b, off, none⟩ ∧ b < w.heap.size ∧ ∀ i, i < len → w.cell? ⟨b, off + i, none⟩ = some (.int k (zs.getD i 0)) := by
  rcases h with ⟨_, h, _⟩ | ⟨x, rfl, h1, _, h2, hc, _⟩
  · omega
  · obtain ⟨b, off, rfl, h⟩ := ints_at hc (by omega)
    exact ⟨b, off, rfl, blt (h 0 (by omega)), fun i hi => h i (by omega)⟩

theorem inc_lt {z : List Int} {n m : Nat} (h : Inc z n m) : ∀ {i j : Nat}, i < j → j < m → z.getD i 0 < z.getD j 0 := by
  intro i j hij hj
  induction j with
  | zero => omega
  | succ j ih =>
    have h1 := (h (j + 1) hj).2.2 (by omega)
    rw [show j + 1 - 1 = j by omega] at h1
    by_cases e : i = j
    · subst e; exact h1
    · have := ih (by omega) (by omega); omega

/-- All offsets that are still to come lie at 'lim' or behind it. -/
def After (z : List Int) (m k lim : Nat) : Prop := ∀ j, k ≤ j → j < m → (lim : Int) ≤ z.getD j 0
theorem after_zero {z : List Int} {n m : Nat} (h : Inc z n m) : After z m 0 0 := fun j _ hj => by have := (h j hj).1; omega
theorem after_succ {z : List Int} {n m k x : Nat} (h : Inc z n m) (_hk : k < m) (ex : z.getD k 0 = (x : Int)) : After z m (k + 1) (x + 1) := by
  intro j hj hjm
  have := inc_lt h (i := k) (j := j) (by omega) hjm
  rw [ex] at this
  omega
theorem offset_at {z : List Int} {n m k lim : Nat} (h : Inc z n m) (hA : After z m k lim) (hk : k < m) : ∃ x : Nat, z.getD k 0 = (x : Int) ∧ x < n ∧ lim ≤ x := by
  have h1 := h k hk
  have h2 := hA k (Nat.le_refl _) hk
  exact ⟨(z.getD k 0).toNat, by omega, by omega, by omega⟩
theorem memo_next {L : List Int} {n lim nb nb' x : Nat} (hM : Memo L n lim nb) (hl : lim ≤ x) (h : nb' = nb ∨ Memo L n (x + 1) nb') : Memo L n (x + 1) nb' := by
  rcases h with rfl | h
  · exact memo_mono hM (by omega)
  · exact h

set_option maxRecDepth 100000 in
set_option maxHeartbeats 1000000 in
theorem walk_small (a0 : Option Addr) (len0 cap0 : Nat) (z0 : List Int) (a1 : Option Addr) (len1 cap1 : Nat) (z1 : List Int) (w : World) (w0 : IsRow .u8 w a0 len0 cap0 z0) (b0 : ∀ j, 0 ≤ z0.getD j 0 ∧ z0.getD j 0 ≤ 255)
    (w1 : IsRow .i64 w a1 len1 cap1 z1) (l0 : len0 ≤ 1048576) (l1 : len1 ≤ 64) (l2 : len0 + 8 * len1 ≤ 1048576) :
    Calls Try.prog 3 #[.slice a0 len0 cap0, .slice a1 len1 cap1] w fun e w' => e = .returned (.bool true) ∧ Below w.heap.size w w' := by
  have q1 : decide ((64 : Int) < (len1 : Int)) = false := by simp; omega
  have q2 : decide ((1048576 : Int) < (len0 : Int)) = false := by simp; omega
  have q3 : decide ((1048576 : Int) < (len0 : Int) + 8 * (len1 : Int)) = false := by simp; omega
  go_enter Try.func3, Try.ntmps3
  go_wp2_with fail
  refine (bytes_any _ _ _ _ _ _ _ (by unfold maxLen; omega) (by unfold maxLen; omega)).mono ?_
  rintro e w ⟨b, rfl, rfl⟩
  cases b
  · go_wp2
    go_ret
    exact ⟨rfl, Below.refl _ _⟩
  · go_wp2
    go_loopw [5] (fun i wr => ∃ k q : Nat, k ≤ len1 ∧ i = .int .i64 k ∧ Inc z1 len0 k ∧ wr = w.drewN q) (fun i _ => len1 - (intOf i).toNat)
    case atStart => exact ⟨0, 0, Nat.zero_le _, rfl, inc_zero _ _, rfl⟩
    case round =>
      obtain ⟨k, q, hk, rfl, hinc, rfl⟩ := hrel
      by_cases hlt : k < len1
      · obtain ⟨b, off, rfl, hbs, hcell⟩ := isRow_at w1 hlt
        have hck := hcell k hlt
        obtain ⟨v, ev⟩ : ∃ v, z1.getD k 0 = v := ⟨_, rfl⟩
        rw [ev] at hck
        have EV : Hid (z1.getD k 0 = v) := ev
        clear ev
        by_cases hv0 : v < 0
        · clear hcell
          go_wp2
          go_ret
          exact ⟨rfl, below_drewN (Below.refl _ _) _⟩
        · by_cases hv1 : v < len0
          · rcases k with _ | k
            · clear hcell
              rw [Nat.add_zero] at hck
              go_wp2
              go_quiet (fail)
              go_wp2
              go_roundw
              case rel => exact ⟨1, _, by omega, by go_num, inc_succ hinc (by rw [EV.out]; omega) (by rw [EV.out]; exact hv1) (fun h => absurd h (by omega)), rfl⟩
              case measure => simp [intOf]; omega
            · have hcp := hcell k (by omega)
              obtain ⟨p, ep⟩ : ∃ p, z1.getD k 0 = p := ⟨_, rfl⟩
              rw [ep] at hcp
              have EP : Hid (z1.getD k 0 = p) := ep
              clear ep hcell
              by_cases hpv : p < v
              · go_wp2
                go_quiet (fail)
                go_wp2
                go_roundw
                case rel => exact ⟨k + 1 + 1, _, by omega, by go_num, inc_succ hinc (by rw [EV.out]; omega) (by rw [EV.out]; exact hv1) (fun _ => by rw [EV.out]; exact (by rw [show k + 1 - 1 = k by omega, EP.out]; exact hpv)), rfl⟩
                case measure => simp [intOf]; omega
              · go_wp2
                go_quiet (fail)
                go_wp2
                go_ret
                exact ⟨rfl, below_drewN (below_drewN (Below.refl _ _) _) _⟩
          · clear hcell
            go_wp2
            go_ret
            exact ⟨rfl, below_drewN (Below.refl _ _) _⟩
      · obtain rfl : len1 = k := by omega
        have HI : Hid (Inc z1 len0 len1) := hinc
        clear hinc
        go_wp2_with fail
        refine (cloneBytes_any _ _ _ z0 _ ?r0 l0).mono ?_
        case r0 => exact w0
        rintro e wa ⟨ad0, rfl, hcp0, hba⟩
        have hba : Below w.heap.size w wa := (below_drewN (Below.refl w.heap.size w) q).trans hba
        go_wp2_with fail
        refine (cloneInts_any _ _ _ z1 _ ?r1 (by omega)).mono ?_
        case r1 => exact isRow_below w1 hba
        rintro e wb ⟨ad1, rfl, hcp1, hbb⟩
        have hbw : Below w.heap.size w wb := hba.trans (hbb.mono hba.size)
        have hq0 := hcp0.below hbb
        clear w0 w1 hcp0 hba hbb
        go_wp2_with fail
        by_cases hl : len1 = 0
        · subst hl
          refine (newCursor_nil _ _ _ _).mono ?_
          rintro e wc ⟨rfl, hbc⟩
          have hbwc : Below w.heap.size w wc := hbw.trans (hbc.mono hbw.size)
          go_wp2
          refine wp_loop_rounds 1 ?_
          rw [rounds_succ]
          go_wp2
          go_ret
          exact ⟨rfl, hbwc⟩
        · obtain ⟨g1, rfl, hg1, hc1⟩ := isCopy_at hcp1 (show 0 < len1 by omega)
          have hl0 : 0 < len0 := by have := HI.out 0 (by omega); omega
          obtain ⟨g0, rfl, hg0, hc0⟩ := isCopy_at hq0 hl0
          clear hcp1 hq0
          refine (newCursor_any _ _ _ _).mono ?_
          rintro e wc ⟨rfl, hcc, hbc⟩
          have hbwc : Below w.heap.size w wc := hbw.trans (hbc.mono hbw.size)
          have HC0 : Hid (∀ i, i < len0 → wc.cell? ⟨g0, i, none⟩ = some (.int .u8 (z0.getD i 0))) := fun i hi => (hbc.cell (p := ⟨g0, i, none⟩) hg0).trans (hc0 i hi)
          have HC1 : Hid (∀ i, i < len1 → wc.cell? ⟨g1, i, none⟩ = some (.int .i64 (z1.getD i 0))) := fun i hi => (hbc.cell (p := ⟨g1, i, none⟩) hg1).trans (hc1 i hi)
          have HB0 : Hid (∀ j, 0 ≤ z0.getD j 0 ∧ z0.getD j 0 ≤ 255) := b0
          have hws := hbw.size
          clear hc0 hc1 hbw hbc b0
          go_wp2_with fail
          go_loopw [7] (fun i wr => ∃ (k lim nb : Nat) (nx : Int), k ≤ len1 ∧ i = .int .i64 k ∧ CAt wr wb.heap.size g0 len0 nx nb ∧ Memo z0 len0 lim nb ∧ After z1 len1 k lim ∧ Below wb.heap.size wc wr) (fun i _ => len1 - (intOf i).toNat)
          case atStart => exact ⟨0, 0, 0, 0, Nat.zero_le _, rfl, hcc, .inl rfl, after_zero HI.out, Below.refl _ _⟩
          case round =>
            obtain ⟨k, lim, nb, nx, hk, rfl, hc, hM, hA, hbr⟩ := hrel
            by_cases hlt : k < len1
            · obtain ⟨x, ex, hxn, hxl⟩ := offset_at HI.out hA hlt
              have hck : wr.cell? ⟨g1, k, none⟩ = some (.int .i64 (x : Int)) := by rw [hbr.cell (p := ⟨g1, k, none⟩) hg1, HC1.out k hlt, ex]
              have EX : Hid (z1.getD k 0 = (x : Int)) := ex
              clear ex
              go_wp2_with fail
              refine (setNext_any _ _ _ _ _ _ _ hc).mono ?_
              rintro e wd ⟨rfl, hcd, hbd⟩
              have hbd' : Below wb.heap.size wc wd := hbr.trans hbd
              clear hc hbd hck
              go_wp2_with fail
              refine (zzThematic_any z0 _ _ _ _ _ lim _ hcd l0 hxn ?L0 HB0.out hM hxl).mono ?_
              case L0 => exact fun j hj => (hbd'.cell (p := ⟨g0, j, none⟩) hg0).trans (HC0.out j hj)
              rintro e we ⟨⟨r1, rfl, hr1⟩, nb', hce, hM', hbe⟩
              have hbe' : Below wb.heap.size wc we := hbd'.trans hbe
              clear hcd hbe hbd'
              go_wp2_with fail
              refine (newCursor_any _ _ _ _).mono ?_
              rintro e wf ⟨rfl, hcf, hbf⟩
              have hbs : wb.heap.size < we.heap.size := hce.lt
              have hbf' : Below wb.heap.size wc wf := hbe'.trans (hbf.mono (by omega))
              have hce' := hce.below hbf
              clear hce
              go_wp2_with fail
              refine (zzThematic_any z0 _ _ _ _ 0 0 _ hcf l0 hxn ?L1 HB0.out (.inl rfl) (Nat.zero_le _)).mono ?_
              case L1 => exact fun j hj => (hbf'.cell (p := ⟨g0, j, none⟩) hg0).trans (HC0.out j hj)
              rintro e wg ⟨⟨r2, rfl, hr2⟩, nb2, hcg, _, hbg⟩
              have hbg' : Below wb.heap.size wc wg := hbf'.trans (hbg.mono (by omega))
              have hcG : CAt wg wb.heap.size g0 len0 (x : Int) nb' := by
                have := hce'
                unfold CAt at *
                rw [hbg.block _ hbs]; exact this
              have hr12 : r1 = r2 := by
                cases r1 <;> cases r2 <;> simp_all
              subst hr12
              clear hcf hbf hbf' hce' hbg hcg hbs hbe'
              have HR : Hid (r1 = true ↔ Brk z0 len0 x) := hr1
              clear hr1 hr2
              go_wp2_with fail
              refine (spec_any z0 _ _ _ _ l0 hxn ?L2 HB0.out).mono ?_
              case L2 => exact fun j hj => (hbg'.cell (p := ⟨g0, j, none⟩) hg0).trans (HC0.out j hj)
              rintro e wh ⟨⟨r3, rfl, hr3⟩, rfl⟩
              have hr13 : r1 = r3 := by
                have := HR.out
                cases r1 <;> cases r3 <;> simp_all
              subst hr13
              clear hr3 HR
              go_wp2
              go_roundw
              case rel => exact ⟨k + 1, x + 1, nb', x, by omega, by go_num, hcG, memo_next hM hxl hM', after_succ HI.out hlt EX.out, hbg'⟩
              case measure => simp [intOf]; omega
            · go_wp2
              go_ret
              exact ⟨rfl, hbwc.trans (hbr.mono hws)⟩
end Go.Proofs.Qxb6003774a
