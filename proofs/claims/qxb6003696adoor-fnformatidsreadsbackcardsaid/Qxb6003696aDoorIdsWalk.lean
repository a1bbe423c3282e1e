import Derived.Test.Qxb6003696aDoorIdsParse
namespace Go.Proofs.Qxb6003696aDoor
open Go.RowKit

set_option maxHeartbeats 400000 in
theorem format_zero (ad : Option Addr) (w : World) :
    Calls Tryd.prog 7 #[.slice ad 0 0] w fun e w' => e = .returned (.string ⟨#[]⟩) ∧ Below w.heap.size w w' := by
  obtain ⟨i0, hi, hz0, hz1, hz2⟩ := info_parts Tryd.info9
  have hmk : ∀ w : World, (Instr.makeSlice 29 (.int .i64 0) (.int .i64 0)).run Tryd.prog w = .ok (.slice (some ⟨w.heap.size, 0, none⟩) 0 0) (w.alloc (.cells #[] 9)) := fun _ => by kernel_rfl
  go_enter Tryd.func7, Tryd.ntmps7
  go_wp2
  refine wp_loop_rounds 1 ?_
  rw [rounds_succ]
  go_wp2_with (go_at_call 12; refine (Tryd.strings_Join_none _ _ _ _).mono ?_; rintro e w' ⟨rfl, rfl⟩)
  go_ret
  exact ⟨rfl, (Below.refl _ _).alloc (Nat.le_refl _) _⟩

/-- A slice that owns n > 0 cells: where it lies, what it holds. -/
theorem own_at {w : World} {B e n : Nat} {v : Value} {xs : List Value} (h : w.ownsRow B e 1 v n xs) (hn : 0 < n) : ∃ g cap, v = .slice (some ⟨g, 0, none⟩) n cap ∧ g < w.heap.size ∧ ∀ j, j < n → w.cell? ⟨g, j, none⟩ = xs[j]? := by
  rcases h.2 with ⟨_, h0⟩ | ⟨g, cap, cur, rfl, _, hg, _⟩
  · omega
  · exact ⟨g, cap, rfl, lt_of_block hg, fun j hj => h.cellAt j (by omega)⟩

theorem nums_get {zs : List Int} (hz : ∀ j, 0 ≤ zs.getD j 0) {n j : Nat} (h : j < n) : (cellsU (nums zs n))[j]? = some (.int .u16 (zs.getD j 0)) := by
  have := hz j
  simp only [cellsU, nums, List.getElem?_map, List.getElem?_range h, Option.map_some]
  congr 2
  omega
theorem nums_length (zs : List Int) (n : Nat) : (nums zs n).length = n := by simp [nums]

set_option maxHeartbeats 1000000 in
theorem walk_zero (a : Option Addr) (cap : Nat) (z : List Int) (w : World) (wz : IsRow .u16 w a 0 cap z) :
    Calls Tryd.prog 3 #[.slice a 0 cap] w fun e w' => e = .returned (.bool true) ∧ Below w.heap.size w w' := by
  go_enter Tryd.func3, Tryd.ntmps3
  go_wp2_with fail
  refine (bytes_any _ _ _ _ (Nat.zero_le _)).mono ?_
  rintro e w ⟨b, rfl, rfl⟩
  cases b
  · go_wp2
    go_ret
    exact ⟨rfl, Below.refl _ _⟩
  · go_wp2_with fail
    refine (cloneU16_any _ _ _ z _ wz (by omega)).mono ?_
    rintro e wa ⟨ad, rfl, _, hba⟩
    go_wp2_with fail
    refine (format_zero _ _).mono ?_
    rintro e wb ⟨rfl, hbb⟩
    have hbw : Below w.heap.size w wb := hba.trans (hbb.mono hba.size)
    go_wp2_with (go_at_call 8; refine (parse_empty _).mono ?_; rintro e w' ⟨rfl, rfl⟩)
    refine wp_loop_rounds 1 ?_
    rw [rounds_succ]
    go_wp2
    go_ret
    exact ⟨rfl, hbw⟩

set_option maxHeartbeats 1000000 in
theorem walk_small (a : Option Addr) (len cap : Nat) (z : List Int) (w : World) (wz : IsRow .u16 w a len cap z) (bz : ∀ j, 0 ≤ z.getD j 0 ∧ z.getD j 0 ≤ 65535) (h0 : 0 < len) (hl : len ≤ 65536) (htab : Lib.TabIs Tryd.prog w powName .u64 Lib.pow10Tab) :
    Calls Tryd.prog 3 #[.slice a len cap] w fun e w' => e = .returned (.bool true) ∧ Below w.heap.size w w' := by
  have q1 : decide ((65536 : Int) < (len : Int)) = false := by simp; omega
  have HZ : Hid (∀ j, 0 ≤ z.getD j 0 ∧ z.getD j 0 ≤ 65535) := bz
  have HT : Hid (∀ w', Below w.heap.size w w' → Lib.TabIs Tryd.prog w' powName .u64 Lib.pow10Tab) := fun w' hb => tab_below htab hb
  clear bz htab
  go_enter Tryd.func3, Tryd.ntmps3
  go_wp2_with fail
  refine (bytes_any _ _ _ _ (by unfold maxLen; omega)).mono ?_
  rintro e w ⟨b, rfl, rfl⟩
  cases b
  · go_wp2
    go_ret
    exact ⟨rfl, Below.refl _ _⟩
  · go_wp2_with fail
    refine (cloneU16_any _ _ _ z _ wz hl).mono ?_
    rintro e wa ⟨ad, rfl, hcp, hba⟩
    obtain ⟨g, rfl, hg, hc⟩ := isCopy_at hcp h0
    have HC : Hid (∀ i, i < len → wa.cell? ⟨g, i, none⟩ = some (.int .u16 (z.getD i 0))) := hc
    clear hcp hc
    go_wp2_with fail
    refine (format_any g len z _ hl h0 HZ.out hg HC.out (HT.out _ hba)).mono ?_
    rintro e wb ⟨rfl, hbb⟩
    have hbw : Below w.heap.size w wb := hba.trans (hbb.mono hba.size)
    have htl := text_len HZ.out hl
    go_wp2_with fail
    refine (parse_any ⟨(textOf z len).toArray⟩ (nums z len) _ ?p1 ?p2 ?p3 ?p4 ?p5).mono ?_
    case p1 => intro h; have := nums_length z len; rw [h] at this; simp at this; omega
    case p2 => rfl
    case p3 =>
      intro m hm
      simp only [nums, List.mem_map] at hm
      obtain ⟨i, _, rfl⟩ := hm
      have := HZ.out i
      omega
    case p4 => exact htl
    case p5 => rw [nums_length]; exact hl
    rintro e wc ⟨v, rfl, hown, hbc⟩
    rw [nums_length] at hown
    obtain ⟨g2, cap2, rfl, hg2, hc2⟩ := own_at hown h0
    have hbw' : Below w.heap.size w wc := hbw.trans (hbc.mono hbw.size)
    have hbac : Below wa.heap.size wa wc := hbb.trans (hbc.mono hbb.size)
    have HC2 : Hid (∀ i, i < len → wc.cell? ⟨g2, i, none⟩ = some (.int .u16 (z.getD i 0))) := fun i hi => (hc2 i hi).trans (nums_get (fun j => (HZ.out j).1) hi)
    have HC1 : Hid (∀ i, i < len → wc.cell? ⟨g, i, none⟩ = some (.int .u16 (z.getD i 0))) := fun i hi => (hbac.cell (p := ⟨g, i, none⟩) hg).trans (HC.out i hi)
    clear hown hc2 HC hba hbb hbc hbac hbw htl
    go_wp2
    go_loopw [6] (fun i wr => ∃ k q : Nat, k ≤ len ∧ i = .int .i64 k ∧ wr = wc.drewN q) (fun i _ => len - (intOf i).toNat)
    case atStart => exact ⟨0, 0, Nat.zero_le _, rfl, rfl⟩
    case round =>
      obtain ⟨k, q, hk, rfl, rfl⟩ := hrel
      by_cases hlt : k < len
      · obtain ⟨x, ex⟩ : ∃ x, z.getD k 0 = x := ⟨_, rfl⟩
        have hk1 := HC1.out k hlt
        have hk2 := HC2.out k hlt
        rw [ex] at hk1 hk2
        clear ex
        go_wp2
        go_quiet (fail)
        go_wp2
        go_roundw
        case rel => exact ⟨k + 1, _, by omega, by go_num, rfl⟩
        case measure => simp [intOf]; omega
      · go_wp2
        go_ret
        exact ⟨rfl, below_drewN hbw' _⟩

set_option maxHeartbeats 1000000 in
theorem walk_big (a : Option Addr) (len cap : Nat) (w : World) (m0 : len ≤ maxLen) (hl : 65536 < len) :
    Calls Tryd.prog 3 #[.slice a len cap] w fun e w' => e = .returned (.bool true) ∧ Below w.heap.size w w' := by
  go_enter Tryd.func3, Tryd.ntmps3
  go_wp2_with fail
  refine (bytes_any _ _ _ _ m0).mono ?_
  rintro e w ⟨b, rfl, rfl⟩
  unfold maxLen at m0
  cases b
  all_goals
    go_wp2
    go_ret
    exact ⟨rfl, Below.refl _ _⟩
end Go.Proofs.Qxb6003696aDoor
