import Derived.Test.Qxb6003696aVisitRound
import Derived.Deep.CutRange

namespace Go.Proofs.Qxb6003696a
open Go.RowKit
set_option maxRecDepth 100000 in
set_option maxHeartbeats 40000000 in
theorem walk_small (a0 : Int) (a1 : Option Addr) (len1 cap1 : Nat) (z1 : List Int) (a2 : Option Addr) (len2 cap2 : Nat) (z2 : List Int) (w : World) (w0 : a0 ≤ 9223372036854775807) (w1 : IsRow .u8 w a1 len1 cap1 z1)
    (b1 : ∀ n ∈ z1, 0 ≤ n ∧ n ≤ 255) (w2 : IsRow .u64 w a2 len2 cap2 z2) (b2 : ∀ n ∈ z2, 0 ≤ n ∧ n ≤ 18446744073709551615) (l1 : len1 ≤ 1024) (l2 : len2 ≤ 1024) :
    Calls Try.prog 3 #[.int .i64 a0, .slice a1 len1 cap1, .slice a2 len2 cap2] w fun e w' => e = .returned (.bool true) ∧ Below w.heap.size w w' := by
  go_enter Try.func3, Try.ntmps3
  go_wp2_with fail
  refine (bytes_any _ _ _ _ _ _ _ _ (by unfold maxLen; omega) (by unfold maxLen; omega)).mono ?_
  rintro e w ⟨b, rfl, rfl⟩
  cases b
  · go_wp2
    go_ret
    exact ⟨rfl, Below.refl _ _⟩
  · go_wp2_with fail
    refine (cloneU8_any _ _ _ z1 _ w1 l1).mono ?_
    rintro e wa ⟨ad1, rfl, hcp1, hba⟩
    go_wp2_with fail
    refine (cloneU64_any _ _ _ z2 _ ?r l2).mono ?_
    case r => exact isRow_below w2 hba
    rintro e wb ⟨ad2, rfl, hcp2, hbb⟩
    have hba' : Below w.heap.size w wb := hba.trans (hbb.mono hba.size)
    have hcp1' := hcp1.below hbb
    clear w1 w2 hcp1 hba hbb
    go_upto_if 71 with fail
    go_cut [7] from 49 to 75 (fun s7 wx => ∃ n : Nat, s7 = .int .i64 n ∧ n ≤ len1 ∧ n ≤ len2 ∧ wx = wb)
    case first =>
      by_cases hlen : len2 < len1
      · go_wp2
        go_meet
        case rel => exact ⟨len2, rfl, by omega, by omega, rfl⟩
      · go_wp2
        go_meet
        case rel => exact ⟨len1, rfl, by omega, by omega, rfl⟩
    case rest =>
      obtain ⟨n, rfl, n1, n2, rfl⟩ := hcut
      go_wp2_with fail
      refine (zzVisitIn_any _ _ w0).mono ?_
      rintro e wd ⟨mo, mb, h1, h2, h3, h4, rfl, hbc⟩
      have hbw : Below w.heap.size w wd := hba'.trans (hbc.mono hba'.size)
      have hq1 := hcp1'.below hbc
      have hq2 := hcp2.below hbc
      clear hcp1' hcp2 hbc hba'
      go_wp2_with fail
      go_loopw [9, 10, 11] (fun t g i wr => ∃ (k : Nat) (tt gg : Bool) (f y e me : Int), k ≤ n ∧ t = .bool tt ∧ g = .bool gg ∧ i = .int .i64 k ∧ VAt wr wd.heap.size f y e mo mb me ∧ Below wd.heap.size wd wr ∧ Nums mo mb k tt gg f y e me) (fun _ _ i _ => n - (intOf i).toNat)
      case atStart => exact ⟨0, false, false, 0, 0, 0, _, Nat.zero_le _, rfl, rfl, rfl, heap_alloc_new _ _, (Below.refl _ _).alloc (Nat.le_refl _) _, Nums.start h1 h3⟩
      case round =>
        obtain ⟨k, tt, gg, f, y, e, me, k1, rfl, rfl, rfl, hv, hbr, N⟩ := hrel
        by_cases hlt : k < n
        · obtain ⟨g1, rfl, hg1, hc1⟩ := isCopy_at hq1 (show k < len1 by omega)
          obtain ⟨g2, rfl, hg2, hc2⟩ := isCopy_at hq2 (show k < len2 by omega)
          have hz := getD_bd (by omega) (by omega) b1 k
          have hx := getD_bd (by omega) (by omega) b2 k
          obtain ⟨z, ez⟩ : ∃ z, z = z1.getD k 0 := ⟨_, rfl⟩
          obtain ⟨x, ex⟩ : ∃ x, x = z2.getD k 0 := ⟨_, rfl⟩
          rw [← ez] at hc1 hz
          rw [← ex] at hc2 hx
          have hc1' : wr.cell? ⟨g1, k, none⟩ = some (.int .u8 z) := (hbr.cell (p := ⟨g1, k, none⟩) hg1).trans hc1
          have hc2' : wr.cell? ⟨g2, k, none⟩ = some (.int .u64 x) := (hbr.cell (p := ⟨g2, k, none⟩) hg2).trans hc2
          clear ez ex hq1 hq2 b1 b2 hc1 hc2
          obtain ⟨d0, d1, d2, d3, d4, d5⟩ := hv.all
          go_wp2_with fail
          refine (fields_any _ _ _ _ _ _ _).mono ?_
          rintro r wx ⟨rfl, hbx⟩
          have hvx := hv.below hbx
          clear hv d0 d1 d2 d3 d4 d5
          have hc1x : wx.cell? ⟨g1, k, none⟩ = some (.int .u8 z) := (hbx.cell (p := ⟨g1, k, none⟩) (Nat.lt_of_lt_of_le hg1 hbr.size)).trans hc1'
          have hc2x : wx.cell? ⟨g2, k, none⟩ = some (.int .u64 x) := (hbx.cell (p := ⟨g2, k, none⟩) (Nat.lt_of_lt_of_le hg2 hbr.size)).trans hc2'
          have hbx' : Below wd.heap.size wd wx := hbr.trans (hbx.mono hbr.size)
          clear hc1' hc2' hbr hbx
          have hn := N.e0; have hn1 := N.e1; have hn2 := N.e2; have hn3 := N.m1
          have hn4 := N.f0; have hn5 := N.f1; have hn6 := N.y0; have hn7 := N.y1
          go_upto_region 18 with fail
          go_cut [98] from 76 to 98 (fun s98 wq => s98 = .int .u8 (z % 3) ∧ wq = wx)
          case first =>
            go_wp2
            go_meet
            case rel => exact ⟨rfl, rfl⟩
          case rest =>
            obtain ⟨rfl, rfl⟩ := hcut
            go_step
            go_cut [9, 10] from 76 to 98 (fun t g wq => ∃ (t' g' : Bool) (f' y' e' me' : Int), t = .bool t' ∧ g = .bool g' ∧ VAt wq wd.heap.size f' y' e' mo mb me' ∧ Below wd.heap.size wd wq ∧ Nums mo mb (k + 1) t' g' f' y' e' me' ∧ me' ≤ me)
            case first =>
              rcases (show z % 3 = 0 ∨ z % 3 = 1 ∨ z % 3 = 2 by omega) with hm | hm | hm
              · by_cases hxl : x < me - e
                · go_wp2_with fail
                  refine (zzLimit_yes _ _ y e mo mb me x _ hvx hn hn2 hn3 hx.1 hxl).mono ?_
                  rintro r wy ⟨rfl, hvy, hby⟩
                  as_aux_lemma =>
                    have hby' : Below wd.heap.size wd wy := hbx'.trans hby
                    obtain ⟨d0, d1, d2, d3, d4, d5⟩ := hvy.all
                    clear hc1x hc2x hbx' hvx
                    go_wp2_with fail
                    refine (fields_any _ _ _ _ _ _ _).mono ?_
                    rintro r wz ⟨rfl, hbz⟩
                    have hvz := hvy.below hbz
                    have hbz' : Below wd.heap.size wd wz := hby'.trans (hbz.mono hby'.size)
                    clear hvy d0 d1 d2 d3 d4 d5 hby hby' hbz
                    go_wp2
                    go_meet
                    case rel => exact ⟨_, _, _, _, _, _, rfl, rfl, hvz, hbz', N.limit (by omega) (by omega), by omega⟩
                · go_wp2_with fail
                  refine (zzLimit_no _ _ y e mo mb me x _ hvx hn hn2 hn3 hx.1 (by omega)).mono ?_
                  rintro r wy ⟨rfl, hvy, hby⟩
                  as_aux_lemma =>
                    have hby' : Below wd.heap.size wd wy := hbx'.trans hby
                    obtain ⟨d0, d1, d2, d3, d4, d5⟩ := hvy.all
                    clear hc1x hc2x hbx' hvx
                    go_wp2_with fail
                    refine (fields_any _ _ _ _ _ _ _).mono ?_
                    rintro r wz ⟨rfl, hbz⟩
                    have hvz := hvy.below hbz
                    have hbz' : Below wd.heap.size wd wz := hby'.trans (hbz.mono hby'.size)
                    clear hvy d0 d1 d2 d3 d4 d5 hby hby' hbz
                    go_wp2
                    go_meet
                    case rel => exact ⟨_, _, _, _, _, _, rfl, rfl, hvz, hbz', N.stay, Int.le_refl _⟩
              · obtain ⟨s, hs, s0, s1⟩ := and_bd x 65535 hx.1 hx.2 (by omega)
                obtain ⟨v, hev, v0, v1⟩ := and_bd (x / 65536) 255 (by omega) (by omega) (by omega)
                have hs : bits .and .u64 x 65535 = s := hs
                have hev : bits .and .u64 (x / 65536) 255 = v := hev
                have s1 : s ≤ 65535 := s1
                have v1 : v ≤ 255 := v1
                go_wp2_with fail
                refine (zzTake_any _ f y e mo mb me s v _ hvx h1 hn4 (by omega) hn (by omega) v0 v1 hn6 (by omega) s0 s1).mono ?_
                rintro r wy (⟨rfl, hvy, hby⟩ | ⟨q1, q2, q3, rfl, hvy, hby⟩)
                ·
                  as_aux_lemma =>
                    have hby' : Below wd.heap.size wd wy := hbx'.trans hby
                    obtain ⟨d0, d1, d2, d3, d4, d5⟩ := hvy.all
                    clear hc1x hc2x hbx' hvx
                    go_wp2_with fail
                    refine (fields_any _ _ _ _ _ _ _).mono ?_
                    rintro r wz ⟨rfl, hbz⟩
                    have hvz := hvy.below hbz
                    have hbz' : Below wd.heap.size wd wz := hby'.trans (hbz.mono hby'.size)
                    clear hvy d0 d1 d2 d3 d4 d5 hby hby' hbz
                    go_wp2
                    go_meet
                    case rel => exact ⟨_, _, _, _, _, _, rfl, rfl, hvz, hbz', N.stay, Int.le_refl _⟩
                · have N' := N.take q1 q2 q3 v0 v1 s0 s1
                  cases tt
                  · replace N' : Nums mo mb (k + 1) true gg (f + 1) (y + s) (e + v) me := N'
                    as_aux_lemma =>
                      have hby' : Below wd.heap.size wd wy := hbx'.trans hby
                      obtain ⟨d0, d1, d2, d3, d4, d5⟩ := hvy.all
                      clear hc1x hc2x hbx' hvx
                      go_wp2_with fail
                      refine (fields_any _ _ _ _ _ _ _).mono ?_
                      rintro r wz ⟨rfl, hbz⟩
                      have hvz := hvy.below hbz
                      have hbz' : Below wd.heap.size wd wz := hby'.trans (hbz.mono hby'.size)
                      clear hvy d0 d1 d2 d3 d4 d5 hby hby' hbz
                      go_wp2
                      go_meet
                      case rel => exact ⟨_, _, _, _, _, _, rfl, rfl, hvz, hbz', N', Int.le_refl _⟩
                  · replace N' : Nums mo mb (k + 1) true true (f + 1) (y + s) (e + v) me := N'
                    as_aux_lemma =>
                      have hby' : Below wd.heap.size wd wy := hbx'.trans hby
                      obtain ⟨d0, d1, d2, d3, d4, d5⟩ := hvy.all
                      clear hc1x hc2x hbx' hvx
                      go_wp2_with fail
                      refine (fields_any _ _ _ _ _ _ _).mono ?_
                      rintro r wz ⟨rfl, hbz⟩
                      have hvz := hvy.below hbz
                      have hbz' : Below wd.heap.size wd wz := hby'.trans (hbz.mono hby'.size)
                      clear hvy d0 d1 d2 d3 d4 d5 hby hby' hbz
                      go_wp2
                      go_meet
                      case rel => exact ⟨_, _, _, _, _, _, rfl, rfl, hvz, hbz', N', Int.le_refl _⟩
              · obtain ⟨s, hs, s0, s1⟩ := and_bd x 524287 hx.1 hx.2 (by omega)
                have hs : bits .and .u64 x 524287 = s := hs
                have s1 : s ≤ 524287 := s1
                go_wp2_with fail
                refine (zzJoin_any _ f y e mo mb me s _ hvx hn (by omega) hn6 (by omega) s0 s1).mono ?_
                rintro r wy (⟨rfl, hvy, hby⟩ | ⟨q1, q2, rfl, hvy, hby⟩)
                ·
                  as_aux_lemma =>
                    have hby' : Below wd.heap.size wd wy := hbx'.trans hby
                    obtain ⟨d0, d1, d2, d3, d4, d5⟩ := hvy.all
                    clear hc1x hc2x hbx' hvx
                    go_wp2_with fail
                    refine (fields_any _ _ _ _ _ _ _).mono ?_
                    rintro r wz ⟨rfl, hbz⟩
                    have hvz := hvy.below hbz
                    have hbz' : Below wd.heap.size wd wz := hby'.trans (hbz.mono hby'.size)
                    clear hvy d0 d1 d2 d3 d4 d5 hby hby' hbz
                    go_wp2
                    go_meet
                    case rel => exact ⟨_, _, _, _, _, _, rfl, rfl, hvz, hbz', N.stay, Int.le_refl _⟩
                · have N' := N.join q1 q2 s0 s1
                  cases tt
                  · replace N' : Nums mo mb (k + 1) false gg f (y + s) (e + 1) me := N'
                    as_aux_lemma =>
                      have hby' : Below wd.heap.size wd wy := hbx'.trans hby
                      obtain ⟨d0, d1, d2, d3, d4, d5⟩ := hvy.all
                      clear hc1x hc2x hbx' hvx
                      go_wp2_with fail
                      refine (fields_any _ _ _ _ _ _ _).mono ?_
                      rintro r wz ⟨rfl, hbz⟩
                      have hvz := hvy.below hbz
                      have hbz' : Below wd.heap.size wd wz := hby'.trans (hbz.mono hby'.size)
                      clear hvy d0 d1 d2 d3 d4 d5 hby hby' hbz
                      go_wp2
                      go_meet
                      case rel => exact ⟨_, _, _, _, _, _, rfl, rfl, hvz, hbz', N', Int.le_refl _⟩
                  · replace N' : Nums mo mb (k + 1) true true f (y + s) (e + 1) me := N'
                    as_aux_lemma =>
                      have hby' : Below wd.heap.size wd wy := hbx'.trans hby
                      obtain ⟨d0, d1, d2, d3, d4, d5⟩ := hvy.all
                      clear hc1x hc2x hbx' hvx
                      go_wp2_with fail
                      refine (fields_any _ _ _ _ _ _ _).mono ?_
                      rintro r wz ⟨rfl, hbz⟩
                      have hvz := hvy.below hbz
                      have hbz' : Below wd.heap.size wd wz := hby'.trans (hbz.mono hby'.size)
                      clear hvy d0 d1 d2 d3 d4 d5 hby hby' hbz
                      go_wp2
                      go_meet
                      case rel => exact ⟨_, _, _, _, _, _, rfl, rfl, hvz, hbz', N', Int.le_refl _⟩
            case rest =>
              obtain ⟨t', g', f', y', e', me', rfl, rfl, hvy, hby, N', hme⟩ := hcut
              clear hc1x hc2x hbx' hvx
              have hr := N'.e0; have hr1 := N'.e2
              have hr4 := N'.f0; have hr5 := N'.f1
              have HY : Hid (mb < y' → f' = 1 ∧ g' = false) := N'.hy
              obtain ⟨d0, d1, d2, d3, d4, d5⟩ := hvy.all
              as_aux_lemma =>
                go_wp2_with fail
                refine (fields_any _ _ _ _ _ _ _).mono ?_
                rintro r wz ⟨rfl, hbz⟩
                have hvz := hvy.below hbz
                have hbz' : Below wd.heap.size wd wz := hby.trans (hbz.mono hby.size)
                clear hvy d0 d1 d2 d3 d4 d5 hby hbz
                by_cases hyb : mb < y'
                · obtain ⟨rfl, rfl⟩ := HY.out hyb
                  as_aux_lemma =>
                    go_wp2
                    go_roundw
                    case rel => exact ⟨k + 1, _, _, _, _, _, _, by omega, rfl, rfl, by go_num, hvz, hbz', N'⟩
                    case measure => simp [intOf]; omega
                · have hyb' : decide (mb < y') = false := by simpa using hyb
                  as_aux_lemma =>
                    go_wp2
                    go_roundw
                    case rel => exact ⟨k + 1, _, _, _, _, _, _, by omega, rfl, rfl, by go_num, hvz, hbz', N'⟩
                    case measure => simp [intOf]; omega
        · clear hq1 hq2 b1 b2
          go_wp2
          go_ret
          exact ⟨rfl, hbw.trans (hbr.mono hbw.size)⟩
end Go.Proofs.Qxb6003696a
