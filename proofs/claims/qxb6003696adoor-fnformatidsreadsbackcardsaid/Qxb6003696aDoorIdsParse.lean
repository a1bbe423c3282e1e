import Derived.Test.Qxb6003696aDoorIdsFormat
namespace Go.Proofs.Qxb6003696aDoor
open Go.RowKit

/-- The number that the digits from i up to place p spell. -/
def valAt (u i p : Nat) : Nat := valOf ((Lib.decDigits u).take (p - i))

theorem data_at {s : ByteArray} {p : Nat} {c : UInt8} (h : s.data.toList[p]? = some c) : ∃ hp : p < s.size, s[p] = c := by
  obtain ⟨h1, h2⟩ := List.getElem?_eq_some_iff.1 h
  refine ⟨by simpa using h1, ?_⟩
  rw [← h2]; rfl

theorem inner_fact {s : ByteArray} {i u p : Nat} {ms : List Nat} (h : Rest s.data.toList i (u :: ms)) (hu : u ≤ 65535) (h1 : i ≤ p) (h2 : p < i + (Lib.decDigits u).length) :
    ∃ hp : p < s.size, 48 ≤ s[p].toNat ∧ s[p].toNat ≤ 57 ∧ valAt u i (p + 1) = valAt u i p * 10 + (s[p].toNat - 48) ∧ valAt u i (p + 1) ≤ 65535 := by
  have hd := rest_digit h (t := p - i) (by omega)
  rw [show i + (p - i) = p by omega] at hd
  have hlt : p - i < (Lib.decDigits u).length := by omega
  rw [List.getElem?_eq_getElem hlt] at hd
  obtain ⟨hp, hc⟩ := data_at hd
  have hm := dec_digits u _ (List.getElem_mem hlt)
  rw [← hc] at hm
  refine ⟨hp, hm.1, hm.2, ?_, ?_⟩
  · unfold valAt
    rw [show p + 1 - i = p - i + 1 by omega, valOf_take_succ (List.getElem?_eq_getElem hlt), hc]
  · have := valOf_take_le (Lib.decDigits u) (p + 1 - i)
    rw [valOf_dec] at this
    unfold valAt
    omega

theorem valAt_start (u i : Nat) : valAt u i i = 0 := by unfold valAt; rw [Nat.sub_self]; rfl
theorem valAt_end (u i : Nat) : valAt u i (i + (Lib.decDigits u).length) = u := by
  unfold valAt
  rw [show i + (Lib.decDigits u).length - i = (Lib.decDigits u).length by omega, List.take_length, valOf_dec]

/-- The first digit; a zero stands alone. -/
theorem head_fact {s : ByteArray} {i u : Nat} {ms : List Nat} (h : Rest s.data.toList i (u :: ms)) :
    ∃ hp : i < s.size, s[i].toNat = 48 → (Lib.decDigits u).length = 1 := by
  have hd := rest_digit h (t := 0) (by have := dec_pos u; omega)
  rw [Nat.add_zero] at hd
  have hlt : 0 < (Lib.decDigits u).length := by have := dec_pos u; omega
  rw [List.getElem?_eq_getElem hlt] at hd
  obtain ⟨hp, hc⟩ := data_at hd
  exact ⟨hp, fun h48 => dec_head u _ (List.getElem?_eq_getElem hlt) (by rw [← hc]; exact h48)⟩

/-- What has been read. -/
def cellsU (ns : List Nat) : List Value := ns.map fun (n : Nat) => Value.int .u16 (n : Int)
theorem cellsU_length (ns : List Nat) : (cellsU ns).length = ns.length := by simp [cellsU]
theorem cellsU_snoc {ns ms : List Nat} {k u : Nat} (h : ns.drop k = u :: ms) : cellsU (ns.take (k + 1)) = cellsU (ns.take k) ++ [.int .u16 (u : Int)] ∧ ns.drop (k + 1) = ms ∧ k < ns.length ∧ u ∈ ns := by
  have hk : k < ns.length := by
    rcases Nat.lt_or_ge k ns.length with h' | h'
    · exact h'
    · rw [List.drop_of_length_le h'] at h; cases h
  have hu : ns[k]? = some u := by
    have := congrArg (·[0]?) h
    simpa [List.getElem?_drop] using this
  refine ⟨?_, ?_, hk, List.mem_of_getElem? hu⟩
  · rw [List.take_add_one, hu]; simp [cellsU]
  · rw [← List.drop_drop, h]; rfl

set_option maxHeartbeats 400000 in
theorem parse_empty (w : World) : Calls Tryd.prog 8 #[.string ⟨#[]⟩] w fun e w' => e = .returned (.tuple #[.slice none 0 0, .bool true]) ∧ w' = w := by
  go_enter Tryd.func8, Tryd.ntmps8
  go_wp2
  go_ret2
  exact ⟨rfl, rfl⟩

theorem parse_start {ns : List Nat} (hne : ns ≠ []) {L : List UInt8} (h : Rest L 0 ns) : ∃ u ms, ns.drop 0 = u :: ms ∧ Rest L 0 (u :: ms) := by
  cases ns with
  | nil => exact absurd rfl hne
  | cons u ms => exact ⟨u, ms, rfl, h⟩

theorem parse_more {k : Nat} {ns : List Nat} {u : Nat} {w wr w1 : World} {v v' : Value} {o : Obj} (hcell : cellsU (ns.take (k + 1)) = cellsU (ns.take k) ++ [.int .u16 (u : Int)])
    (hown : wr.ownsRow w.heap.size 28 1 v k (cellsU (ns.take k))) (hb : Below w.heap.size w wr) (hown' : w1.ownsRow w.heap.size 28 1 v' (k + 1) (cellsU (ns.take k) ++ [.int .u16 (u : Int)])) (hgrow : (wr.alloc o).grownBy w1 v.ownBlock) :
    w1.ownsRow w.heap.size 28 1 v' (k + 1) (cellsU (ns.take (k + 1))) ∧ Below w.heap.size w w1 := by
  refine ⟨by rw [hcell]; exact hown', (hb.alloc hb.size o).grown hgrow (by have := hb.size; simp; omega) (fun j hj => (hown.lt j hj).1)⟩

theorem parse_last {k : Nat} {ns : List Nat} {u : Nat} {w wr w1 : World} {v v' : Value} {o : Obj} (hk : k < ns.length) (hd : ns.drop (k + 1) = []) (hcell : cellsU (ns.take (k + 1)) = cellsU (ns.take k) ++ [.int .u16 (u : Int)])
    (hown : wr.ownsRow w.heap.size 28 1 v k (cellsU (ns.take k))) (hb : Below w.heap.size w wr) (hown' : w1.ownsRow w.heap.size 28 1 v' (k + 1) (cellsU (ns.take k) ++ [.int .u16 (u : Int)])) (hgrow : (wr.alloc o).grownBy w1 v.ownBlock) :
    w1.ownsRow w.heap.size 28 1 v' ns.length (cellsU ns) ∧ Below w.heap.size w w1 := by
  have hl : ns.length ≤ k + 1 := by simpa using hd
  have h := parse_more hcell hown hb hown' hgrow
  rw [List.take_of_length_le hl] at h
  have e : ns.length = k + 1 := by omega
  rw [e]
  exact h

set_option maxHeartbeats 2000000 in
theorem parse_any (s : ByteArray) (ns : List Nat) (w : World) (hne : ns ≠ []) (hs : s.data.toList = Lib.join (ns.map Lib.decDigits) [44]) (hb : ∀ n ∈ ns, n ≤ 65535) (hsz : s.size ≤ 4295098368) (hl : ns.length ≤ 65536) :
    Calls Tryd.prog 8 #[.string s] w fun e w' => ∃ v, e = .returned (.tuple #[v, .bool true]) ∧ w'.ownsRow w.heap.size 28 1 v ns.length (cellsU ns) ∧ Below w.heap.size w w' := by
  obtain ⟨i0, hi, hz0, hz1, hz2⟩ := info_parts Tryd.info28
  have hr0 : Rest s.data.toList 0 ns := by unfold Rest; rw [List.drop_zero]; exact hs
  obtain ⟨u0, ms0, hd0, hr0⟩ := parse_start hne hr0
  have HR0 : Hid (ns.drop 0 = u0 :: ms0 ∧ Rest s.data.toList 0 (u0 :: ms0)) := ⟨hd0, hr0⟩
  have HB : Hid (∀ n ∈ ns, n ≤ 65535) := hb
  have hnz : s.toList.isEmpty = false := by
    have h1 := rest_le hr0
    have h2 := dec_pos u0
    rw [ByteArray.toList_eq]
    cases hl : s.data.toList with
    | nil => rw [hl, List.length_nil] at h1; omega
    | cons _ _ => rfl
  clear hs hb hne hd0 hr0
  go_enter Tryd.func8, Tryd.ntmps8
  go_wp2
  go_loopw [4, 5] (fun v x wr => ∃ (k i u : Nat) (ms : List Nat), i ≤ s.size ∧ x = .int .i64 i ∧ ns.drop k = u :: ms ∧ Rest s.data.toList i (u :: ms) ∧ wr.ownsRow w.heap.size 28 1 v k (cellsU (ns.take k)) ∧ Below w.heap.size w wr) (fun _ x _ => s.size + 1 - (intOf x).toNat)
  case atStart => exact ⟨0, 0, u0, ms0, Nat.zero_le _, rfl, HR0.out.1, HR0.out.2, World.ownsRow_nil _ _ _ _, Below.refl _ _⟩
  case round =>
    obtain ⟨k, i, u, ms, hi1, rfl, hdr, hrest, hown, hbel⟩ := hrel
    obtain ⟨hcell, hdrop, hkn, hun⟩ := cellsU_snoc hdr
    have hu := HB.out u hun
    obtain ⟨q, eq⟩ : ∃ q, q = i + (Lib.decDigits u).length := ⟨_, rfl⟩
    have hiq : i < q := by have := dec_pos u; omega
    have hqs : q ≤ s.size := by have := rest_le hrest; simp at this; omega
    have HIN : Hid (∀ p, i ≤ p → p < q → ∃ hp : p < s.size, 48 ≤ s[p].toNat ∧ s[p].toNat ≤ 57 ∧ valAt u i (p + 1) = valAt u i p * 10 + (s[p].toNat - 48) ∧ valAt u i (p + 1) ≤ 65535) := fun p h1 h2 => inner_fact hrest hu h1 (by omega)
    have HEND : Hid (valAt u i q = u) := by unfold Hid; rw [eq]; exact valAt_end u i
    obtain ⟨hp0, hh0⟩ := head_fact hrest
    have HHEAD : Hid (s[i].toNat = 48 → q = i + 1) := fun h => by rw [eq, hh0 h]
    have HREST : Hid (Rest s.data.toList i (u :: ms)) := hrest
    have EQ : Hid (q = i + (Lib.decDigits u).length) := eq
    have HCELL : Hid (cellsU (ns.take (k + 1)) = cellsU (ns.take k) ++ [.int .u16 (u : Int)]) := hcell
    have HDR : Hid (ns.drop (k + 1) = ms) := hdrop
    clear hh0 hrest eq hdr hcell hdrop hun HR0
    go_wp2
    go_loop [5, 7] (fun x y => ∃ p : Nat, i ≤ p ∧ p ≤ q ∧ x = .int .i64 p ∧ y = .int .i64 (valAt u i p)) (fun x _ => q - (intOf x).toNat)
    case atStart => exact ⟨i, Nat.le_refl _, by omega, rfl, by rw [valAt_start]; rfl⟩
    case round =>
      obtain ⟨p, hp1, hp2, rfl, rfl⟩ := hrel
      by_cases hpq : p < q
      · obtain ⟨hps, hc1, hc2, hv, hvb⟩ := HIN.out p hp1 hpq
        obtain ⟨c, hc⟩ : ∃ c : UInt8, s[p] = c := ⟨_, rfl⟩
        rw [hc] at hc1 hc2 hv
        obtain ⟨a, ha⟩ : ∃ a, valAt u i p = a := ⟨_, rfl⟩
        obtain ⟨a', ha'⟩ : ∃ a', valAt u i (p + 1) = a' := ⟨_, rfl⟩
        rw [ha, ha'] at hv
        rw [ha'] at hvb
        have HV : Hid (a' = a * 10 + (c.toNat - 48)) := hv
        have HA : Hid (valAt u i (p + 1) = a') := ha'
        have hab : a * 10 + (c.toNat - 48) ≤ 65535 := by omega
        have hc44 : ((c.toNat : Int) != 44) = true := by simp; omega
        clear hv ha'
        go_wp2
        go_round
        case rel => exact ⟨p + 1, by omega, by omega, by go_num, by rw [HA.out, HV.out]; go_num⟩
        case measure => simp [intOf]; omega
      · obtain rfl : q = p := by omega
        have hqi : ((q : Int) == (i : Int)) = false := by simp; omega
        obtain ⟨c, hc⟩ : ∃ c : UInt8, s[i] = c := ⟨_, rfl⟩
        have hhead := HHEAD.out
        rw [hc] at hhead
        have HD : Hid (c.toNat = 48 → q = i + 1) := hhead
        clear hhead HIN HHEAD
        rw [HEND.out]
        by_cases h48 : (c.toNat : Int) = 48
        all_goals
          have hq1 : (c.toNat : Int) = 48 → (q : Int) ≤ i + 1 := fun h => by have := HD.out (by omega); omega
          first
            | replace hq1 := hq1 h48
            | clear hq1
          cases ms with
          | nil =>
            have hqe : s.size = q := by have := rest_end HREST.out (by simpa using hi1); rw [EQ.out]; simpa using this
            have hge : ¬ ((q : Int) < (s.size : Int)) := by omega
            have hle : (s.size : Int) ≤ (q : Int) := by omega
            clear hqe
            go_wp2_with (at_builtin; refine wpList_append_own _ rfl _ _ 22 rfl w.heap.size 28 i0 (.int .u16 0) 1 2 Tryd.underlying22 hi hz0 hz1 hz2 rfl (by decide) _ _ _ rfl (hown.alloc _) ⟨wr.heap.size, 0, none⟩ 1 1 [.int .u16 (u : Int)] rfl rfl (cell_one_new _ _ _) (by intro x hx; simp at hx; subst hx; rfl) (by unfold maxLen; omega) (by omega) (by have := hbel.size; simp; omega) ?_; intro v2 w2 hown2 hgrow2 hnil2)
            go_ret2
            have R := parse_last hkn HDR.out HCELL.out hown hbel hown2 hgrow2
            exact ⟨v2, rfl, R.1, R.2⟩
          | cons u2 ms2 =>
            obtain ⟨hcm, hrest2⟩ := rest_comma HREST.out
            rw [← EQ.out] at hcm hrest2
            obtain ⟨hqs2, hq44⟩ := data_at hcm
            have HREST2 : Hid (Rest s.data.toList (q + 1) (u2 :: ms2)) := hrest2
            clear hcm hrest2
            go_wp2_with (at_builtin; refine wpList_append_own _ rfl _ _ 22 rfl w.heap.size 28 i0 (.int .u16 0) 1 2 Tryd.underlying22 hi hz0 hz1 hz2 rfl (by decide) _ _ _ rfl (hown.alloc _) ⟨wr.heap.size, 0, none⟩ 1 1 [.int .u16 (u : Int)] rfl rfl (cell_one_new _ _ _) (by intro x hx; simp at hx; subst hx; rfl) (by unfold maxLen; omega) (by omega) (by have := hbel.size; simp; omega) ?_; intro v2 w2 hown2 hgrow2 hnil2)
            have R := parse_more HCELL.out hown hbel hown2 hgrow2
            go_roundw
            case rel => exact ⟨k + 1, q + 1, u2, ms2, by omega, by go_num, HDR.out, HREST2.out, R.1, R.2⟩
            case measure => simp [intOf]; omega
end Go.Proofs.Qxb6003696aDoor
