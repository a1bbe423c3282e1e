import Derived.Test.Qxb6003726aWaitHeard
import Derived.Test.Qxb6003726aWaitNode
import Derived.Test.Qxb6003726aWaitClone
namespace Go.Proofs.Qxb6003726a
open Go.RowKit Go.Maps Go.WideMaps Go.WideElems

set_option maxHeartbeats 400000 in
theorem bytes_any (p s : Int) (a2 : Option Addr) (len2 cap2 : Nat) (a3 : Option Addr) (len3 cap3 : Nat) (a4 : Option Addr) (len4 cap4 : Nat) (w : World) (m2 : len2 ≤ maxLen) (m3 : len3 ≤ maxLen) (m4 : len4 ≤ maxLen) :
    Calls Try.prog 26 #[.int .i64 p, .int .i64 s, .slice a2 len2 cap2, .slice a3 len3 cap3, .slice a4 len4 cap4] w fun e w' => ∃ b : Bool, e = .returned (.bool b) ∧ w' = w := by
  unfold maxLen at m2 m3 m4
  by_cases h1 : 1048576 < len2
  · go_enter Try.func26, Try.ntmps26
    go_wp2
    go_ret
    exact ⟨_, rfl, rfl⟩
  · by_cases h2 : 1048576 < len3
    · go_enter Try.func26, Try.ntmps26
      go_wp2
      go_ret
      exact ⟨_, rfl, rfl⟩
    · by_cases h3 : 1048576 < len2 + len3
      · go_enter Try.func26, Try.ntmps26
        go_wp2
        go_ret
        exact ⟨_, rfl, rfl⟩
      · by_cases h4 : 1048576 < len4
        · go_enter Try.func26, Try.ntmps26
          go_wp2
          go_ret
          exact ⟨_, rfl, rfl⟩
        · by_cases h5 : 1048576 < len2 + len3 + len4
          · go_enter Try.func26, Try.ntmps26
            go_wp2
            go_ret
            exact ⟨_, rfl, rfl⟩
          · go_enter Try.func26, Try.ntmps26
            go_wp2
            go_ret
            exact ⟨_, rfl, rfl⟩

/-- The three names. -/
def nm (j : Int) : ByteArray := if j = 0 then ⟨#[97]⟩ else if j = 1 then ⟨#[98]⟩ else ⟨#[99]⟩
theorem nm_size (j : Int) : (nm j).size ≤ maxLen := by
  unfold nm
  split
  · exact Nat.le_trans (show _ ≤ 1 from Nat.le_refl _) (by unfold maxLen; omega)
  · split
    · exact Nat.le_trans (show _ ≤ 1 from Nat.le_refl _) (by unfold maxLen; omega)
    · exact Nat.le_trans (show _ ≤ 1 from Nat.le_refl _) (by unfold maxLen; omega)
theorem nm_ne {i j : Int} (hi : 0 ≤ i ∧ i < 3) (hj : 0 ≤ j ∧ j < 3) (h : i ≠ j) : (nm i).data.toList ≠ (nm j).data.toList := by
  obtain rfl | rfl | rfl : i = 0 ∨ i = 1 ∨ i = 2 := by omega
  all_goals obtain rfl | rfl | rfl : j = 0 ∨ j = 1 ∨ j = 2 := by omega
  all_goals first | exact absurd rfl h | (simp [nm])

set_option maxHeartbeats 400000 in
theorem name_any (k : Int) (w : World) (h0 : 0 ≤ k) : Calls Try.prog 30 #[.int .u8 k] w fun e w' => e = .returned (.string (nm (k % 3))) ∧ w' = w := by
  obtain ⟨j, hj⟩ : ∃ j, k % 3 = j := ⟨_, rfl⟩
  have e2 : k.tmod 3 = j := by rw [Int.tmod_eq_emod_of_nonneg h0]; exact hj
  rw [hj]
  obtain rfl | rfl | rfl : j = 0 ∨ j = 1 ∨ j = 2 := by omega
  · go_enter Try.func30, Try.ntmps30
    go_wp2
    go_ret
    exact ⟨rfl, rfl⟩
  · go_enter Try.func30, Try.ntmps30
    go_wp2
    go_ret
    exact ⟨rfl, rfl⟩
  · go_enter Try.func30, Try.ntmps30
    go_wp2
    go_ret
    exact ⟨rfl, rfl⟩

/-- THE NODE's STATE, by the three names: its wait, what it outlived, the patience for each name. -/
def Stand (w : World) (b mb n : Nat) (wt out : Int) (cs : Int → Int) : Prop :=
  NodeAt w b wt out mb ∧ mb ≠ b ∧ 0 ≤ wt ∧ wt ≤ 9223372036854775807 ∧ 0 ≤ out ∧ out ≤ 9223372036854775807 ∧
  (∃ D, PMap w mb n D ∧ ∀ j, 0 ≤ j → j < 3 → At D (nm j) (cs j)) ∧ ∀ j, 0 ≤ j → j < 3 → cs j ≤ 9223372036854775807

theorem wv_ge {r : Bool} {wt out c : Int} (o0 : 0 ≤ out) (w1 : wt ≤ 9223372036854775807) : wt ≤ wv r wt out c := by
  unfold wv both; cases r <;> simp <;> omega
theorem wv_le {r : Bool} {wt out c : Int} (w1 : wt ≤ 9223372036854775807) (hc : c ≤ 9223372036854775807) : wv r wt out c ≤ 9223372036854775807 := by
  unfold wv both; cases r <;> simp <;> omega
theorem wv_tf {wt out c : Int} (o0 : 0 ≤ out) (w1 : wt ≤ 9223372036854775807) : wv true wt out c ≤ wv false wt out c := by
  unfold wv both; simp; omega
theorem wv_up {r : Bool} {wt out out' c c' : Int} (ho : out ≤ out') (hc : c ≤ c') : wv r wt out c ≤ wv r wt out' c' := by
  unfold wv both; cases r <;> simp <;> omega
theorem wv_c {r : Bool} {wt out c : Int} : c ≤ wv r wt out c := by unfold wv; omega

/-- WHAT ONE HEARING DOES TO THE WAITS: none shrinks; a short quiet changes none. -/
def Up (wt out out' : Int) (cs cs' : Int → Int) (q : Int) : Prop :=
  (∀ r i, 0 ≤ i → i < 3 → wv r wt out (cs i) ≤ wv r wt out' (cs' i)) ∧ (q ≤ wt / 2 → ∀ r i, 0 ≤ i → i < 3 → wv r wt out' (cs' i) = wv r wt out (cs i))

def Hears (w w' : World) (B b mb n : Nat) (wt out : Int) (cs : Int → Int) (q : Int) : Prop :=
  ∃ out' cs', Stand w' b mb (n + 1) wt out' cs' ∧ Below B w w' ∧ Apart b mb w w' ∧ Up wt out out' cs cs' q

theorem heard_hears {w w' : World} {B b mb n : Nat} {wt out q : Int} {cs : Int → Int} {D : DataW Unit} {j : Int} (j0 : 0 ≤ j) (j1 : j < 3) (hne : mb ≠ b) (w0 : 0 ≤ wt) (w1 : wt ≤ 9223372036854775807) (o0 : 0 ≤ out)
    (hm : Maps.IsMap D) (hD : ∀ j, 0 ≤ j → j < 3 → At D (nm j) (cs j)) (hc : ∀ j, 0 ≤ j → j < 3 → cs j ≤ 9223372036854775807) (h : Heard w w' B b mb n wt out (cs j) D (nm j) q) : Hears w w' B b mb n wt out cs q := by
  obtain ⟨out', D', hn, hp, hb, ha, s1, s2, s3⟩ := h
  rcases s3 with ⟨rfl, rfl⟩ | ⟨hq, rfl⟩ | ⟨hq, rfl, l, rfl, hl, hl2⟩
  · exact ⟨out', cs, ⟨hn, hne, w0, w1, by omega, s2, ⟨D', hp, hD⟩, hc⟩, hb, ha, fun _ _ _ _ => Int.le_refl _, fun _ _ _ _ _ => rfl⟩
  · exact ⟨out', cs, ⟨hn, hne, w0, w1, by omega, s2, ⟨D', hp, hD⟩, hc⟩, hb, ha, fun _ _ _ _ => wv_up s1 (Int.le_refl _), fun h => absurd h (by omega)⟩
  · refine ⟨out', fun i => if i = j then l else cs i, ⟨hn, hne, w0, w1, by omega, s2, ⟨_, hp, fun i i0 i1 => ?_⟩, fun i i0 i1 => ?_⟩, hb, ha, fun r i i0 i1 => wv_up s1 ?_, fun h => absurd h (by omega)⟩
    · by_cases e : i = j
      · subst e
        simp only [if_pos]
        exact Maps.atKey_put_same hm (by trivial) _ _
      · show At _ _ (if i = j then l else cs i)
        rw [if_neg e]
        exact (Maps.atKey_put_other (fun h => nm_ne ⟨i0, i1⟩ ⟨j0, j1⟩ e (by simpa using h)) _ _).trans (hD i i0 i1)
    · show (if i = j then l else cs i) ≤ _
      split
      · exact hl2
      · exact hc i i0 i1
    · show cs i ≤ if i = j then l else cs i
      split
      · rename_i e
        subst e
        have := wv_c (r := false) (wt := wt) (out := out') (c := cs i)
        omega
      · exact Int.le_refl _

theorem heard_any (B b mb n : Nat) (wt out q : Int) (cs : Int → Int) (j : Int) (ol pr : Bool) (w : World) (h : Stand w b mb n wt out cs) (j0 : 0 ≤ j) (j1 : j < 3) (hB : B ≤ b) (hBm : B ≤ mb) (hn : n < maxLen) (q1 : q ≤ 9223372036854775807) :
    Calls Try.prog 37 #[.pointer (some ⟨b, 0, none⟩), .string (nm j), .int .i64 q, .bool ol, .bool pr] w fun e w' => e = .returned (.tuple #[]) ∧ Hears w w' B b mb n wt out cs q := by
  obtain ⟨hN, hne, w0, w1, o0, o1, ⟨D, hp, hD⟩, hc⟩ := h
  have key : ∀ e w', (e = Ending.returned (.tuple #[]) ∧ Heard w w' B b mb n wt out (cs j) D (nm j) q) → (e = Ending.returned (.tuple #[]) ∧ Hears w w' B b mb n wt out cs q) := fun e w' h => ⟨h.1, heard_hears j0 j1 hne w0 w1 o0 hp.isMap hD hc h.2⟩
  have hf0 : 0 ≤ wv false wt out (cs j) := Int.le_trans w0 (wv_ge o0 w1)
  have hf1 := wv_le (r := false) (out := out) w1 (hc j j0 j1)
  by_cases hq : q ≤ wt / 2
  · exact (heard_short B b mb n wt out (cs j) q D (nm j) ol pr w hN hp w0 w1 o1 hq).mono (fun e w' h => key e w' h)
  · have hq' : wt / 2 < q := by omega
    by_cases hgt : q - wv false wt out (cs j) ≤ wv false wt out (cs j) ∨ (wv false wt out (cs j) < q - wv false wt out (cs j) ∧ pr = true)
    · by_cases hol : ol = true ∧ Maps.has D (.string (nm j).data.toList) = false
      · obtain ⟨rfl, hh⟩ := hol
        exact (heard_outlive B b mb n wt out (cs j) q D (nm j) pr w hN hp (nm_size j) (hD j j0 j1) w0 w1 o0 o1 hne hB hq' q1 _ rfl hf0 hf1 hgt hh).mono (fun e w' h => key e w' h)
      · exact (heard_learn B b mb n wt out (cs j) q D (nm j) ol pr w hN hp (nm_size j) (hD j j0 j1) w0 w1 o0 o1 hne hB hBm hn hq' q1 _ rfl hf0 hf1 hgt (by cases ol <;> simp_all)).mono (fun e w' h => key e w' h)
    · have hpr : pr = false := by cases pr <;> simp_all <;> omega
      subst hpr
      exact (heard_absent B b mb n wt out (cs j) q D (nm j) ol w hN hp (nm_size j) (hD j j0 j1) w0 w1 o0 o1 hq' q1 _ rfl hf0 hf1 (by omega)).mono (fun e w' h => key e w' h)

set_option maxHeartbeats 400000 in
theorem zzHeard_any (B b mb n : Nat) (wt out q : Int) (cs : Int → Int) (j : Int) (ol pr : Bool) (w : World) (h : Stand w b mb n wt out cs) (j0 : 0 ≤ j) (j1 : j < 3) (hB : B ≤ b) (hBm : B ≤ mb) (hn : n < maxLen) (q1 : q ≤ 9223372036854775807) :
    Calls Try.prog 31 #[.pointer (some ⟨b, 0, none⟩), .string (nm j), .int .i64 q, .bool ol, .bool pr] w fun e w' => e = .returned (.tuple #[]) ∧ Hears w w' B b mb n wt out cs q := by
  have C := heard_any B b mb n wt out q cs j ol pr w h j0 j1 hB hBm hn q1
  clear h
  go_enter Try.func31, Try.ntmps31
  go_wp2_with fail
  refine C.mono ?_
  rintro e w' ⟨rfl, hh⟩
  have HH : Hid (Hears w w' B b mb n wt out cs q) := hh
  clear hh
  go_wp2
  exact bodyPost_end (v := .tuple #[]) (by simp [results, Try.results31, go_sem]) rfl ⟨rfl, HH.out⟩

set_option maxHeartbeats 400000 in
theorem zzWait_rep (b mb n : Nat) (wt out : Int) (cs : Int → Int) (j : Int) (w : World) (h : Stand w b mb n wt out cs) (j0 : 0 ≤ j) (j1 : j < 3) :
    Calls Try.prog 29 #[.pointer (some ⟨b, 0, none⟩), .string (nm j), .bool true] w fun e w' => e = .returned (.int .i64 (wv true wt out (cs j))) ∧ w' = w := by
  obtain ⟨hN, hne, w0, w1, o0, o1, ⟨D, hp, hD⟩, hc⟩ := h
  have C := waitFor_rep b mb n wt out (cs j) D (nm j) w hN hp (nm_size j) (hD j j0 j1)
  clear hN hp hD
  go_enter Try.func29, Try.ntmps29
  go_wp2_with fail
  refine C.mono ?_
  rintro e w' ⟨rfl, rfl⟩
  go_wp2
  go_ret
  exact ⟨rfl, rfl⟩

set_option maxHeartbeats 400000 in
theorem zzWait_all (b mb n : Nat) (wt out : Int) (cs : Int → Int) (j : Int) (w : World) (h : Stand w b mb n wt out cs) (j0 : 0 ≤ j) (j1 : j < 3) :
    Calls Try.prog 29 #[.pointer (some ⟨b, 0, none⟩), .string (nm j), .bool false] w fun e w' => e = .returned (.int .i64 (wv false wt out (cs j))) ∧ ∃ q, w' = w.drewN q := by
  obtain ⟨hN, hne, w0, w1, o0, o1, ⟨D, hp, hD⟩, hc⟩ := h
  have C := waitFor_all b mb n wt out (cs j) D (nm j) w hN hp (nm_size j) (hD j j0 j1) w0 w1 o0 o1
  clear hN hp hD
  go_enter Try.func29, Try.ntmps29
  go_wp2_with fail
  refine C.mono ?_
  rintro e w' ⟨rfl, q, rfl⟩
  go_wp2
  go_ret
  exact ⟨rfl, q, rfl⟩

/-- The wait that a new node is given. -/
def want (p s : Int) : Int := if s = 0 then (if p ≤ 3074457345618258602 then 3 * p else 9223372036854775807) else s

theorem newNode_any (id : ByteArray) (inc p s : Int) (w : World) (hid : id.size ≤ maxLen) (p0 : 0 ≤ p) (s0 : 0 ≤ s) :
    Calls Try.prog 35 #[.string id, .int .u64 inc, .agg #[.int .i64 p, .int .i64 s]] w fun e w' => ∃ b mb, e = .returned (.pointer (some ⟨b, 0, none⟩)) ∧ Made w w' (want p s) b mb := by
  by_cases hs : s = 0
  · subst hs
    by_cases hp : p ≤ 3074457345618258602
    · simp only [want, if_pos, if_pos hp]
      exact newNode_three id inc p w hid p0 hp
    · simp only [want, if_pos, if_neg hp]
      exact newNode_max id inc p w hid (by omega)
  · simp only [want, if_neg hs]
    exact newNode_pos id inc p s w hid (by omega)

/-- A node as it comes from the wrapper. -/
def Born (w w' : World) (wt : Int) (b mb : Nat) : Prop :=
  Stand w' b mb 0 wt 0 (fun _ => 0) ∧ w.heap.size ≤ b ∧ w.heap.size ≤ mb ∧ Below w.heap.size w w'

set_option maxHeartbeats 400000 in
theorem zzNode_any (id : ByteArray) (inc p s : Int) (w : World) (hid : id.size ≤ maxLen) (p0 : 0 ≤ p) (s0 : 0 ≤ s) (w1 : want p s ≤ 9223372036854775807) :
    Calls Try.prog 28 #[.string id, .int .u64 inc, .int .i64 p, .int .i64 s] w fun e w' => ∃ b mb, e = .returned (.pointer (some ⟨b, 0, none⟩)) ∧ Born w w' (want p s) b mb := by
  have C := newNode_any id inc p s w hid p0 s0
  have w0 : 0 ≤ want p s := by unfold want; split <;> (try split) <;> omega
  have K : ∀ w' b mb, Made w w' (want p s) b mb → Hid (Born w w' (want p s) b mb) := fun w' b mb h => ⟨⟨h.1, h.2.2.1, w0, w1, Int.le_refl _, by omega, ⟨_, h.2.1, fun j _ _ => rfl⟩, fun _ _ _ => by show (0 : Int) ≤ _; omega⟩, h.2.2.2.1, h.2.2.2.2.1, h.2.2.2.2.2⟩
  have hbuild : ∀ w : World, (Instr.build 75 #[(0, .int .i64 p), (1, .int .i64 s)]).run Try.prog w = .ok (.agg #[.int .i64 p, .int .i64 s]) w := fun w => by kernel_rfl
  have HB : Hid (∀ w : World, (Instr.build 75 #[(0, .int .i64 p), (1, .int .i64 s)]).run Try.prog w = .ok (.agg #[.int .i64 p, .int .i64 s]) w) := hbuild
  clear hbuild w1 w0
  go_enter Try.func28, Try.ntmps28
  go_wp2_with first | (refine wpList_build _ rfl 75 _ rfl #[(0, .int .i64 p), (1, .int .i64 s)] (by kernel_rfl) _ (HB.out _) ?_) | fail
  refine C.mono ?_
  rintro e w' ⟨b, mb, rfl, hm⟩
  have hh := K _ _ _ hm
  clear hm K
  go_wp2
  go_ret
  exact ⟨_, _, rfl, hh.out⟩
end Go.Proofs.Qxb6003726a
