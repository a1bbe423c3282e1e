import Derived.Test.Qxb6003726aWaitState
import Derived.StillTailTactics
namespace Go.Proofs.Qxb6003726a
open Go.RowKit Go.Maps Go.WideMaps Go.WideElems

set_option maxRecDepth 100000 in
set_option maxHeartbeats 3000000 in
theorem walk_small (p s : Int) (a2 : Option Addr) (n cap2 : Nat) (z2 : List Int) (a3 : Option Addr) (cap3 : Nat) (z3 : List Int) (a4 : Option Addr) (cap4 : Nat) (z4 : List Int) (w : World) (p0 : 0 ≤ p) (p1 : p ≤ 9223372036854775807) (s0 : 0 ≤ s) (s1 : s ≤ 9223372036854775807)
    (w2 : IsRow .u8 w a2 n cap2 z2) (w3 : IsRow .i64 w a3 n cap3 z3) (w4 : IsRow .u8 w a4 n cap4 z4) (b2 : ∀ j, 0 ≤ z2.getD j 0 ∧ z2.getD j 0 ≤ 255) (b3 : ∀ j, -9223372036854775808 ≤ z3.getD j 0 ∧ z3.getD j 0 ≤ 9223372036854775807) (b4 : ∀ j, 0 ≤ z4.getD j 0 ∧ z4.getD j 0 ≤ 255) (hn : n ≤ 64) :
    Calls Try.prog 6 #[.int .i64 p, .int .i64 s, .slice a2 n cap2, .slice a3 n cap3, .slice a4 n cap4] w fun e w' => e = .returned (.bool true) ∧ Below w.heap.size w w' := by
  have W1 : want p s ≤ 9223372036854775807 := by unfold want; split <;> (try split) <;> omega
  go_enter Try.func6, Try.ntmps6
  go_wp2_with fail
  refine (bytes_any _ _ _ _ _ _ _ _ _ _ _ _ (by unfold maxLen; omega) (by unfold maxLen; omega) (by unfold maxLen; omega)).mono ?_
  rintro e w ⟨b, rfl, rfl⟩
  cases b
  · go_wp2
    go_ret
    exact ⟨rfl, Below.refl _ _⟩
  · go_wp2_with fail
    refine (cloneBytes_any _ _ _ z2 _ w2 (by omega)).mono ?_
    rintro e wa ⟨ad2, rfl, hcp2, hba⟩
    go_wp2_with fail
    refine (cloneInts_any _ _ _ z3 _ ?r3 (by omega)).mono ?_
    case r3 => exact isRow_below w3 hba
    rintro e wb ⟨ad3, rfl, hcp3, hbb⟩
    have hbb' : Below w.heap.size w wb := hba.trans (hbb.mono hba.size)
    have hq2 := hcp2.below hbb
    clear hcp2 hbb hba w2 w3
    go_wp2_with fail
    refine (cloneBytes_any _ _ _ z4 _ ?r4 (by omega)).mono ?_
    case r4 => exact isRow_below w4 hbb'
    rintro e wd ⟨ad4, rfl, hcp4, hbd⟩
    have hbw : Below w.heap.size w wd := hbb'.trans (hbd.mono hbb'.size)
    have hr2 := hq2.below hbd
    have hr3 := hcp3.below hbd
    clear hq2 hcp3 hbb' hbd w4
    go_upto_if 70 with fail
    go_cut [11] from 22 to 77 (fun t wx => t = .int .i64 (want p s) ∧ wx = wd)
    case first =>
      by_cases hs : s = 0
      · by_cases hp : p ≤ 3074457345618258602
        · have hw : Hid (want p s = 3 * p) := by unfold want; rw [if_pos hs, if_pos hp]; exact rfl
          have hsb : (s == 0) = true := by simp [hs]
          clear hs
          go_wp2
          go_meet
          case rel => exact ⟨by rw [hw.out], rfl⟩
        · have hw : Hid (want p s = 9223372036854775807) := by unfold want; rw [if_pos hs, if_neg hp]; exact rfl
          have hsb : (s == 0) = true := by simp [hs]
          clear hs
          go_wp2
          go_meet
          case rel => exact ⟨by rw [hw.out], rfl⟩
      · have hw : Hid (want p s = s) := by unfold want; rw [if_neg hs]; exact rfl
        have hsb : (s == 0) = false := by simp [hs]
        clear hs
        go_wp2
        go_meet
        case rel => exact ⟨by rw [hw.out], rfl⟩
    case rest =>
      obtain ⟨rfl, rfl⟩ := hcut
      go_wp2_with fail
      refine (zzNode_any _ 1 p s _ ?h p0 s0 W1).mono ?_
      case h => exact Nat.le_trans (show _ ≤ 4 from Nat.le_refl _) (by unfold maxLen; omega)
      rintro e we ⟨b, mb, rfl, hborn⟩
      obtain ⟨wt, hwt⟩ : ∃ x, want p s = x := ⟨_, rfl⟩
      rw [hwt] at hborn W1 ⊢
      have hruns := hborn.runs
      obtain ⟨G, hG⟩ : ∃ G, we.heap.size = G := ⟨_, rfl⟩
      rw [hG] at hruns
      clear hborn hwt p0 s0 p1 s1
      go_wp2_with fail
      clear hG
      go_loopw [15] (fun i wr => ∃ k : Nat, k ≤ 3 ∧ i = .int .i64 k ∧ Hid (First wc wc.heap.size G b mb wt k wr)) (fun i _ => 3 - (intOf i).toNat)
      case atStart => exact ⟨0, by omega, rfl, _, _, hruns, fun i hi => absurd hi (by omega)⟩
      case round =>
        obtain ⟨k, hk, rfl, hF⟩ := hrel
        clear hruns
        rcases (show k = 0 ∨ k = 1 ∨ k = 2 ∨ 3 ≤ k by omega) with rfl | rfl | rfl | h3
        · obtain ⟨F, T, hR, hF⟩ := hF
          as_aux_lemma =>
            have hcF := hR.2.1.at (show 0 < 3 by omega)
            have hcT := hR.2.2.1.at (show 0 < 3 by omega)
            have hfF := hR.2.1.fr 0
            have hfT := hR.2.2.1.fr 0
            go_wp2_with fail
            refine (name_at 0 _ (by omega) (by omega)).mono ?_
            rintro e wx ⟨rfl, rfl⟩
            go_wp2_with fail
            refine (first_all hR 0 (by omega) (by omega)).mono ?_
            rintro e wx ⟨rfl, q, rfl⟩
            go_wp2_with fail
            refine (name_at 0 _ (by omega) (by omega)).mono ?_
            rintro e wx ⟨rfl, rfl⟩
            go_wp2_with fail
            refine (first_rep (hR.drewN q) 0 (by omega) (by omega)).mono ?_
            rintro e wx ⟨rfl, rfl⟩
            go_wp2
            go_roundw
            case rel => exact ⟨0 + 1, by omega, by go_num, First.next (hR.drewN q) hF (by omega)⟩
            case measure => simp [intOf]
        · obtain ⟨F, T, hR, hF⟩ := hF
          as_aux_lemma =>
            have hcF := hR.2.1.at (show 1 < 3 by omega)
            have hcT := hR.2.2.1.at (show 1 < 3 by omega)
            have hfF := hR.2.1.fr 1
            have hfT := hR.2.2.1.fr 1
            go_wp2_with fail
            refine (name_at 1 _ (by omega) (by omega)).mono ?_
            rintro e wx ⟨rfl, rfl⟩
            go_wp2_with fail
            refine (first_all hR 1 (by omega) (by omega)).mono ?_
            rintro e wx ⟨rfl, q, rfl⟩
            go_wp2_with fail
            refine (name_at 1 _ (by omega) (by omega)).mono ?_
            rintro e wx ⟨rfl, rfl⟩
            go_wp2_with fail
            refine (first_rep (hR.drewN q) 1 (by omega) (by omega)).mono ?_
            rintro e wx ⟨rfl, rfl⟩
            go_wp2
            go_roundw
            case rel => exact ⟨1 + 1, by omega, by go_num, First.next (hR.drewN q) hF (by omega)⟩
            case measure => simp [intOf]
        · obtain ⟨F, T, hR, hF⟩ := hF
          as_aux_lemma =>
            have hcF := hR.2.1.at (show 2 < 3 by omega)
            have hcT := hR.2.2.1.at (show 2 < 3 by omega)
            have hfF := hR.2.1.fr 2
            have hfT := hR.2.2.1.fr 2
            go_wp2_with fail
            refine (name_at 2 _ (by omega) (by omega)).mono ?_
            rintro e wx ⟨rfl, rfl⟩
            go_wp2_with fail
            refine (first_all hR 2 (by omega) (by omega)).mono ?_
            rintro e wx ⟨rfl, q, rfl⟩
            go_wp2_with fail
            refine (name_at 2 _ (by omega) (by omega)).mono ?_
            rintro e wx ⟨rfl, rfl⟩
            go_wp2_with fail
            refine (first_rep (hR.drewN q) 2 (by omega) (by omega)).mono ?_
            rintro e wx ⟨rfl, rfl⟩
            go_wp2
            go_roundw
            case rel => exact ⟨2 + 1, by omega, by go_num, First.next (hR.drewN q) hF (by omega)⟩
            case measure => simp [intOf]
        · have hO : Outer wc wc.heap.size G b mb wt 0 wr := First.outer (by have e3 : k = 3 := by omega
                                                                            subst e3; exact hF)
          clear hF
          go_wp2_with fail
          go_loopw [18] (fun i wr => ∃ k : Nat, k ≤ n ∧ i = .int .i64 k ∧ Hid (Outer wc wc.heap.size G b mb wt k wr)) (fun i _ => n - (intOf i).toNat)
          case atStart => exact ⟨0, Nat.zero_le _, rfl, hO⟩
          case round =>
            clear hO
            obtain ⟨k, hk, rfl, hO⟩ := hrel
            by_cases hlt : k < n
            · obtain ⟨m, out, cs, F, T, hm, hR, hFT⟩ := hO
              obtain ⟨g2, rfl, hg2, hc2⟩ := isCopy_at hr2 hlt
              obtain ⟨g3, rfl, hg3, hc3⟩ := isCopy_at hr3 hlt
              obtain ⟨g4, rfl, hg4, hc4⟩ := isCopy_at hcp4 hlt
              have hx2 := (hR.2.2.2.1.cell (p := ⟨g2, k, none⟩) hg2).trans (hc2 k hlt)
              have hx3 := (hR.2.2.2.1.cell (p := ⟨g3, k, none⟩) hg3).trans (hc3 k hlt)
              have hx4 := (hR.2.2.2.1.cell (p := ⟨g4, k, none⟩) hg4).trans (hc4 k hlt)
              have hz2 := b2 k
              have hz3 := b3 k
              have hz4 := b4 k
              obtain ⟨z, ez⟩ : ∃ z, z = z2.getD k 0 := ⟨_, rfl⟩
              obtain ⟨q, eq⟩ : ∃ q, q = z3.getD k 0 := ⟨_, rfl⟩
              obtain ⟨y, ey⟩ : ∃ y, y = z4.getD k 0 := ⟨_, rfl⟩
              rw [← ez] at hx2 hz2
              rw [← eq] at hx3 hz3
              rw [← ey] at hx4 hz4
              have HX3 : Hid (wc.cell? ⟨g3, k, none⟩ = some (.int .i64 q)) := by rw [eq]; exact hc3 k hlt
              clear ez eq ey hr2 hr3 hcp4 b2 b3 b4 hc2 hc3 hc4
              have hki : (k : Int) < (n : Int) := by omega
              go_upto_region 31 with fail
              refine wp_region_still_tail 22 (by kernel_rfl) (by kernel_rfl) ?_
              simp only [List.take_succ_cons, List.take_zero, List.drop_succ_cons, List.drop_zero]
              iterate 5 still_step
              still_call (name_any z _ (by omega))
              repeat still_step
              refine wpStill_nil ?_
              go_wp2_with fail
              refine (zzHeard_any wc.heap.size b mb m wt out q cs (z % 3) _ _ _ ?S (by omega) (by omega) hR.2.2.2.2.1 hR.2.2.2.2.2.1 (by unfold maxLen; omega) (by omega)).mono ?_
              case S => exact hR.1
              rintro e wx ⟨rfl, hh⟩
              obtain ⟨out', cs', hR', hU⟩ := Runs.hears (hR.drewN 1) hh
              have hI : Inner wc wc.heap.size G b mb (m + 1) wt out out' cs cs' 0 wx := ⟨F, T, hR', fun i hi => absurd hi (by omega), fun i _ hi => hFT i hi⟩
              clear hh hR hR' hFT hx2 hx3 hx4 hz2 hz3 hz4 hg2 hg4
              go_wp2_with fail
              go_loopw [19] (fun i wr => ∃ j : Nat, j ≤ 3 ∧ i = .int .i64 j ∧ Hid (Inner wc wc.heap.size G b mb (m + 1) wt out out' cs cs' j wr)) (fun i _ => 3 - (intOf i).toNat)
              case atStart => exact ⟨0, by omega, rfl, hI⟩
              case round =>
                clear hI
                obtain ⟨j, hj, rfl, hI⟩ := hrel
                obtain rfl | rfl | rfl | rfl : j = 0 ∨ j = 1 ∨ j = 2 ∨ j = 3 := by omega
                · obtain ⟨F, T, hR, h1, h2⟩ := hI
                  obtain ⟨f, ef⟩ : ∃ f, wv false wt out' (cs' 0) = f := ⟨_, rfl⟩
                  obtain ⟨t, et⟩ : ∃ t, wv true wt out' (cs' 0) = t := ⟨_, rfl⟩
                  obtain ⟨f0, ef0⟩ : ∃ f, F 0 = f := ⟨_, rfl⟩
                  obtain ⟨t0, et0⟩ : ∃ t, T 0 = t := ⟨_, rfl⟩
                  have CA := fun (w : World) (hS : Stand w b mb (m + 1) wt out' cs') => zzWait_all b mb (m + 1) wt out' cs' 0 w hS (by omega) (by omega)
                  have CR := fun (w : World) (hS : Stand w b mb (m + 1) wt out' cs') => zzWait_rep b mb (m + 1) wt out' cs' 0 w hS (by omega) (by omega)
                  rw [ef] at CA
                  rw [et] at CR
                  have hcF := hR.2.1.at (show 0 < 3 by omega)
                  have hcT := hR.2.2.1.at (show 0 < 3 by omega)
                  rw [ef0] at hcF
                  rw [et0] at hcT
                  have hfF := hR.2.1.fr 0
                  have hfT := hR.2.2.1.fr 0
                  obtain ⟨i1, i2, i3, i4, i5⟩ := inner_facts hR hU h2 (by omega) ef et ef0 et0
                  have hx3 := (hR.2.2.2.1.cell (p := ⟨g3, k, none⟩) hg3).trans HX3.out
                  have wt0 := hR.1.2.2.1
                  have wt1 := hR.1.2.2.2.1
                  have d1 : decide (f < f0) = false := by simp; omega
                  have d2 : decide (t < t0) = false := by simp; omega
                  have d3 : decide (f < t) = false := by simp; omega
                  have d4 : decide (t < wt) = false := by simp; omega
                  have EF : Hid (wv false wt out' (cs' 0) = f) := ef
                  have ET : Hid (wv true wt out' (cs' 0) = t) := et
                  clear ef et ef0 et0
                  as_aux_lemma =>
                    by_cases hq : q ≤ wt / 2
                    · obtain ⟨rfl, rfl⟩ := i5 hq
                      go_wp2_with fail
                      refine (name_at 0 _ (by omega) (by omega)).mono ?_
                      rintro e wx ⟨rfl, rfl⟩
                      go_wp2_with fail
                      refine (CA _ hR.1).mono ?_
                      rintro e wx ⟨rfl, nq, rfl⟩
                      go_wp2_with fail
                      refine (name_at 0 _ (by omega) (by omega)).mono ?_
                      rintro e wx ⟨rfl, rfl⟩
                      go_wp2_with fail
                      refine (CR _ (hR.drewN nq).1).mono ?_
                      rintro e wx ⟨rfl, rfl⟩
                      go_wp2
                      go_roundw
                      case rel => exact ⟨0 + 1, by omega, by go_num, Inner.next (hR.drewN nq) h1 h2 (by omega) EF.out ET.out⟩
                      case measure => simp [intOf]
                    · clear i5
                      go_wp2_with fail
                      refine (name_at 0 _ (by omega) (by omega)).mono ?_
                      rintro e wx ⟨rfl, rfl⟩
                      go_wp2_with fail
                      refine (CA _ hR.1).mono ?_
                      rintro e wx ⟨rfl, nq, rfl⟩
                      go_wp2_with fail
                      refine (name_at 0 _ (by omega) (by omega)).mono ?_
                      rintro e wx ⟨rfl, rfl⟩
                      go_wp2_with fail
                      refine (CR _ (hR.drewN nq).1).mono ?_
                      rintro e wx ⟨rfl, rfl⟩
                      go_wp2
                      go_roundw
                      case rel => exact ⟨0 + 1, by omega, by go_num, Inner.next (hR.drewN nq) h1 h2 (by omega) EF.out ET.out⟩
                      case measure => simp [intOf]
                · obtain ⟨F, T, hR, h1, h2⟩ := hI
                  obtain ⟨f, ef⟩ : ∃ f, wv false wt out' (cs' 1) = f := ⟨_, rfl⟩
                  obtain ⟨t, et⟩ : ∃ t, wv true wt out' (cs' 1) = t := ⟨_, rfl⟩
                  obtain ⟨f0, ef0⟩ : ∃ f, F 1 = f := ⟨_, rfl⟩
                  obtain ⟨t0, et0⟩ : ∃ t, T 1 = t := ⟨_, rfl⟩
                  have CA := fun (w : World) (hS : Stand w b mb (m + 1) wt out' cs') => zzWait_all b mb (m + 1) wt out' cs' 1 w hS (by omega) (by omega)
                  have CR := fun (w : World) (hS : Stand w b mb (m + 1) wt out' cs') => zzWait_rep b mb (m + 1) wt out' cs' 1 w hS (by omega) (by omega)
                  rw [ef] at CA
                  rw [et] at CR
                  have hcF := hR.2.1.at (show 1 < 3 by omega)
                  have hcT := hR.2.2.1.at (show 1 < 3 by omega)
                  rw [ef0] at hcF
                  rw [et0] at hcT
                  have hfF := hR.2.1.fr 1
                  have hfT := hR.2.2.1.fr 1
                  obtain ⟨i1, i2, i3, i4, i5⟩ := inner_facts hR hU h2 (by omega) ef et ef0 et0
                  have hx3 := (hR.2.2.2.1.cell (p := ⟨g3, k, none⟩) hg3).trans HX3.out
                  have wt0 := hR.1.2.2.1
                  have wt1 := hR.1.2.2.2.1
                  have d1 : decide (f < f0) = false := by simp; omega
                  have d2 : decide (t < t0) = false := by simp; omega
                  have d3 : decide (f < t) = false := by simp; omega
                  have d4 : decide (t < wt) = false := by simp; omega
                  have EF : Hid (wv false wt out' (cs' 1) = f) := ef
                  have ET : Hid (wv true wt out' (cs' 1) = t) := et
                  clear ef et ef0 et0
                  as_aux_lemma =>
                    by_cases hq : q ≤ wt / 2
                    · obtain ⟨rfl, rfl⟩ := i5 hq
                      go_wp2_with fail
                      refine (name_at 1 _ (by omega) (by omega)).mono ?_
                      rintro e wx ⟨rfl, rfl⟩
                      go_wp2_with fail
                      refine (CA _ hR.1).mono ?_
                      rintro e wx ⟨rfl, nq, rfl⟩
                      go_wp2_with fail
                      refine (name_at 1 _ (by omega) (by omega)).mono ?_
                      rintro e wx ⟨rfl, rfl⟩
                      go_wp2_with fail
                      refine (CR _ (hR.drewN nq).1).mono ?_
                      rintro e wx ⟨rfl, rfl⟩
                      go_wp2
                      go_roundw
                      case rel => exact ⟨1 + 1, by omega, by go_num, Inner.next (hR.drewN nq) h1 h2 (by omega) EF.out ET.out⟩
                      case measure => simp [intOf]
                    · clear i5
                      go_wp2_with fail
                      refine (name_at 1 _ (by omega) (by omega)).mono ?_
                      rintro e wx ⟨rfl, rfl⟩
                      go_wp2_with fail
                      refine (CA _ hR.1).mono ?_
                      rintro e wx ⟨rfl, nq, rfl⟩
                      go_wp2_with fail
                      refine (name_at 1 _ (by omega) (by omega)).mono ?_
                      rintro e wx ⟨rfl, rfl⟩
                      go_wp2_with fail
                      refine (CR _ (hR.drewN nq).1).mono ?_
                      rintro e wx ⟨rfl, rfl⟩
                      go_wp2
                      go_roundw
                      case rel => exact ⟨1 + 1, by omega, by go_num, Inner.next (hR.drewN nq) h1 h2 (by omega) EF.out ET.out⟩
                      case measure => simp [intOf]
                · obtain ⟨F, T, hR, h1, h2⟩ := hI
                  obtain ⟨f, ef⟩ : ∃ f, wv false wt out' (cs' 2) = f := ⟨_, rfl⟩
                  obtain ⟨t, et⟩ : ∃ t, wv true wt out' (cs' 2) = t := ⟨_, rfl⟩
                  obtain ⟨f0, ef0⟩ : ∃ f, F 2 = f := ⟨_, rfl⟩
                  obtain ⟨t0, et0⟩ : ∃ t, T 2 = t := ⟨_, rfl⟩
                  have CA := fun (w : World) (hS : Stand w b mb (m + 1) wt out' cs') => zzWait_all b mb (m + 1) wt out' cs' 2 w hS (by omega) (by omega)
                  have CR := fun (w : World) (hS : Stand w b mb (m + 1) wt out' cs') => zzWait_rep b mb (m + 1) wt out' cs' 2 w hS (by omega) (by omega)
                  rw [ef] at CA
                  rw [et] at CR
                  have hcF := hR.2.1.at (show 2 < 3 by omega)
                  have hcT := hR.2.2.1.at (show 2 < 3 by omega)
                  rw [ef0] at hcF
                  rw [et0] at hcT
                  have hfF := hR.2.1.fr 2
                  have hfT := hR.2.2.1.fr 2
                  obtain ⟨i1, i2, i3, i4, i5⟩ := inner_facts hR hU h2 (by omega) ef et ef0 et0
                  have hx3 := (hR.2.2.2.1.cell (p := ⟨g3, k, none⟩) hg3).trans HX3.out
                  have wt0 := hR.1.2.2.1
                  have wt1 := hR.1.2.2.2.1
                  have d1 : decide (f < f0) = false := by simp; omega
                  have d2 : decide (t < t0) = false := by simp; omega
                  have d3 : decide (f < t) = false := by simp; omega
                  have d4 : decide (t < wt) = false := by simp; omega
                  have EF : Hid (wv false wt out' (cs' 2) = f) := ef
                  have ET : Hid (wv true wt out' (cs' 2) = t) := et
                  clear ef et ef0 et0
                  as_aux_lemma =>
                    by_cases hq : q ≤ wt / 2
                    · obtain ⟨rfl, rfl⟩ := i5 hq
                      go_wp2_with fail
                      refine (name_at 2 _ (by omega) (by omega)).mono ?_
                      rintro e wx ⟨rfl, rfl⟩
                      go_wp2_with fail
                      refine (CA _ hR.1).mono ?_
                      rintro e wx ⟨rfl, nq, rfl⟩
                      go_wp2_with fail
                      refine (name_at 2 _ (by omega) (by omega)).mono ?_
                      rintro e wx ⟨rfl, rfl⟩
                      go_wp2_with fail
                      refine (CR _ (hR.drewN nq).1).mono ?_
                      rintro e wx ⟨rfl, rfl⟩
                      go_wp2
                      go_roundw
                      case rel => exact ⟨2 + 1, by omega, by go_num, Inner.next (hR.drewN nq) h1 h2 (by omega) EF.out ET.out⟩
                      case measure => simp [intOf]
                    · clear i5
                      go_wp2_with fail
                      refine (name_at 2 _ (by omega) (by omega)).mono ?_
                      rintro e wx ⟨rfl, rfl⟩
                      go_wp2_with fail
                      refine (CA _ hR.1).mono ?_
                      rintro e wx ⟨rfl, nq, rfl⟩
                      go_wp2_with fail
                      refine (name_at 2 _ (by omega) (by omega)).mono ?_
                      rintro e wx ⟨rfl, rfl⟩
                      go_wp2_with fail
                      refine (CR _ (hR.drewN nq).1).mono ?_
                      rintro e wx ⟨rfl, rfl⟩
                      go_wp2
                      go_roundw
                      case rel => exact ⟨2 + 1, by omega, by go_num, Inner.next (hR.drewN nq) h1 h2 (by omega) EF.out ET.out⟩
                      case measure => simp [intOf]
                · have hO := Inner.done (k := k + 1) hI (by omega)
                  clear hI
                  go_wp2
                  go_roundw
                  case rel => exact ⟨k + 1, by omega, by go_num, hO⟩
                  case measure => simp [intOf]; omega
            · obtain rfl : n = k := by omega
              go_wp2
              go_ret
              obtain ⟨m, out, cs, F, T, hm, hR, hFT⟩ := hO
              exact ⟨rfl, hbw.trans (hR.2.2.2.1.mono hbw.size)⟩
end Go.Proofs.Qxb6003726a
