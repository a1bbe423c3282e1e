import Derived.Test.Qxb6003726aRows
import Derived.WalkKit
import Derived.WalkSpells
import Derived.WalkLawsBesides
import Derived.Deep.QuietTactic
import Derived.BigQuiet
import Derived.RegionTactic
import Derived.OpenShut
import Derived.Maps.Own
import Derived.Maps.OwnOps
import Derived.Maps.OwnSet
import Derived.ProofKit
namespace Go.Proofs.Qxb6003726a
open Go.RowKit Go.Maps Go.WideMaps Go.WideElems

theorem law9 : Keyed Try.prog 9 := string_keyed Try.underlying9
theorem zero73 (w : World) : (zeroValue 73).run Try.prog w = .ok (.int .i64 0) w := by kernel_rfl

/-- The node's block: of its sixty-six cells 'repeats', 'wait', 'outlived' and 'patience' matter. -/
def NodeAt (w : World) (b : Nat) (wt out : Int) (mb : Nat) : Prop :=
  ∃ cs : Array Value, w.heap[b]? = some (.cells cs 94 (0, 0)) ∧ cs[55]? = some (.int .i64 wt) ∧ cs[56]? = some (.int .i64 out) ∧ cs[57]? = some (.map (some mb)) ∧ ∃ r, cs[20]? = some (.bool r)

theorem NodeAt.lt {w : World} {b mb : Nat} {wt out : Int} (h : NodeAt w b wt out mb) : b < w.heap.size := by obtain ⟨cs, h, _⟩ := h; exact lt_of_block h
theorem NodeAt.c55 {w : World} {b mb : Nat} {wt out : Int} (h : NodeAt w b wt out mb) : w.cell? ⟨b, 55, none⟩ = some (.int .i64 wt) := by obtain ⟨cs, h, h1, h2, h3, h4⟩ := h; simp [World.cell?, h, h1]
theorem NodeAt.c56 {w : World} {b mb : Nat} {wt out : Int} (h : NodeAt w b wt out mb) : w.cell? ⟨b, 56, none⟩ = some (.int .i64 out) := by obtain ⟨cs, h, h1, h2, h3, h4⟩ := h; simp [World.cell?, h, h2]
theorem NodeAt.c57 {w : World} {b mb : Nat} {wt out : Int} (h : NodeAt w b wt out mb) : w.cell? ⟨b, 57, none⟩ = some (.map (some mb)) := by obtain ⟨cs, h, h1, h2, h3, h4⟩ := h; simp [World.cell?, h, h3]
theorem NodeAt.c20 {w : World} {b mb : Nat} {wt out : Int} (h : NodeAt w b wt out mb) : ∃ r, w.cell? ⟨b, 20, none⟩ = some (.bool r) := by obtain ⟨cs, h, h1, h2, h3, r, h4⟩ := h; exact ⟨r, by simp [World.cell?, h, h4]⟩
theorem NodeAt.fr {w : World} {b mb : Nat} {wt out : Int} (h : NodeAt w b wt out mb) (o : Nat) : w.frozen? ⟨b, o, none⟩ = false := by obtain ⟨cs, h, h1⟩ := h; simp [World.frozen?, h]
theorem NodeAt.drewN {w : World} {b mb : Nat} {wt out : Int} (h : NodeAt w b wt out mb) (q : Nat) : NodeAt (w.drewN q) b wt out mb := h
theorem NodeAt.at {w w' : World} {b mb : Nat} {wt out : Int} (h : NodeAt w b wt out mb) (hb : w'.heap[b]? = w.heap[b]?) : NodeAt w' b wt out mb := by
  obtain ⟨cs, h, r⟩ := h
  exact ⟨cs, by rw [hb]; exact h, r⟩

theorem block_setCell {w : World} {b : Nat} {cs : Array Value} {t : TypeId} {q : Nat × Nat} (h : w.heap[b]? = some (.cells cs t q)) (o : Nat) (u : Value) :
    (w.setCell ⟨b, o, none⟩ u).heap[b]? = some (.cells (cs.setIfInBounds o u) t q) := by
  have hlt := lt_of_block h
  have h' : w.heap[b] = .cells cs t q := by simpa [Array.getElem?_eq_getElem hlt] using h
  show (w.heap.modify b _)[b]? = _
  rw [Array.getElem?_eq_getElem (by simpa using hlt), Array.getElem_modify_self, h']
  rfl
theorem NodeAt.s20 {w : World} {b mb : Nat} {wt out : Int} (h : NodeAt w b wt out mb) (x : Bool) : NodeAt (w.setCell ⟨b, 20, none⟩ (.bool x)) b wt out mb := by
  obtain ⟨cs, h, h1, h2, h3, r, h4⟩ := h
  have hs : 20 < cs.size := (Array.getElem?_eq_some_iff.1 h4).1
  refine ⟨_, block_setCell h 20 _, ?_, ?_, ?_, x, ?_⟩
  · rw [Array.getElem?_setIfInBounds_ne (by omega)]; exact h1
  · rw [Array.getElem?_setIfInBounds_ne (by omega)]; exact h2
  · rw [Array.getElem?_setIfInBounds_ne (by omega)]; exact h3
  · rw [Array.getElem?_setIfInBounds_self_of_lt hs]
theorem NodeAt.s56 {w : World} {b mb : Nat} {wt out : Int} (h : NodeAt w b wt out mb) (x : Int) : NodeAt (w.setCell ⟨b, 56, none⟩ (.int .i64 x)) b wt x mb := by
  obtain ⟨cs, h, h1, h2, h3, r, h4⟩ := h
  have hs : 56 < cs.size := (Array.getElem?_eq_some_iff.1 h2).1
  refine ⟨_, block_setCell h 56 _, ?_, ?_, ?_, r, ?_⟩
  · rw [Array.getElem?_setIfInBounds_ne (by omega)]; exact h1
  · rw [Array.getElem?_setIfInBounds_self_of_lt hs]
  · rw [Array.getElem?_setIfInBounds_ne (by omega)]; exact h3
  · rw [Array.getElem?_setIfInBounds_ne (by omega)]; exact h4

/-- wait and outlived together, or the longest Duration. -/
def both (wt out : Int) : Int := if out ≤ 9223372036854775807 - wt then wt + out else 9223372036854775807
/-- How long the node waits. -/
def wv (rep : Bool) (wt out c : Int) : Int := max (if rep then wt else both wt out) c

abbrev PMap (w : World) (mb n : Nat) (D : DataW Unit) : Prop := w.ownsMap Try.prog 9 (plainElem Try.prog 73) mb n D
abbrev At (D : DataW Unit) (s : ByteArray) (c : Int) : Prop := D.atKey (.string s.data.toList) (.lit (.int .i64 0)) = .lit (.int .i64 c)

theorem ret_int {a b : Int} (h : a = b) : Ending.returned (.int .i64 a) = .returned (.int .i64 b) := by rw [h]

theorem wv_hi {rep : Bool} {wt out c m : Int} (hm : (if rep then wt else both wt out) = m) (h : m < c) : c = wv rep wt out c := by unfold wv; rw [hm, Int.max_eq_right (by omega)]
theorem wv_lo {rep : Bool} {wt out c m : Int} (hm : (if rep then wt else both wt out) = m) (h : c ≤ m) : m = wv rep wt out c := by unfold wv; rw [hm, Int.max_eq_left h]
theorem both_fits {wt out : Int} (h : out ≤ 9223372036854775807 - wt) : both wt out = wt + out := by unfold both; rw [if_pos h]
theorem both_caps {wt out : Int} (h : ¬ out ≤ 9223372036854775807 - wt) : both wt out = 9223372036854775807 := by unfold both; rw [if_neg h]

set_option maxRecDepth 100000 in
set_option maxHeartbeats 400000 in
theorem waitFor_rep (b mb n : Nat) (wt out c : Int) (D : DataW Unit) (s : ByteArray) (w : World) (h : NodeAt w b wt out mb) (hm : PMap w mb n D) (hs : s.size ≤ maxLen) (hc : At D s c) :
    Calls Try.prog 36 #[.pointer (some ⟨b, 0, none⟩), .string s, .bool true] w fun e w' => e = .returned (.int .i64 (wv true wt out c)) ∧ w' = w := by
  have c55 := h.c55
  have c57 := h.c57
  have HC : Hid (At D s c) := hc
  clear hc
  by_cases hlt : wt < c
  · go_enter Try.func36, Try.ntmps36
    go_wp2_with (at_lookup; refine wpList_lookup_own_int _ rfl _ _ 83 rfl 9 73 .i64 law9 Try.underlying83 Try.underlying73 (zero73 _) mb n D rfl hm _ _ rfl (keyOf_string_mk Try.underlying9 hs) ?_; intro c' hat hwc; obtain rfl : c = c' := (by have := HC.out.symm.trans hat; simpa using this); clear hat)
    go_ret
    exact ⟨ret_int (wv_hi rfl hlt), rfl⟩
  · go_enter Try.func36, Try.ntmps36
    go_wp2_with (at_lookup; refine wpList_lookup_own_int _ rfl _ _ 83 rfl 9 73 .i64 law9 Try.underlying83 Try.underlying73 (zero73 _) mb n D rfl hm _ _ rfl (keyOf_string_mk Try.underlying9 hs) ?_; intro c' hat hwc; obtain rfl : c = c' := (by have := HC.out.symm.trans hat; simpa using this); clear hat)
    go_ret
    exact ⟨ret_int (wv_lo rfl (by omega)), rfl⟩

set_option maxRecDepth 100000 in
set_option maxHeartbeats 400000 in
theorem waitFor_all (b mb n : Nat) (wt out c : Int) (D : DataW Unit) (s : ByteArray) (w : World) (h : NodeAt w b wt out mb) (hm : PMap w mb n D) (hs : s.size ≤ maxLen) (hc : At D s c) (w0 : 0 ≤ wt) (w1 : wt ≤ 9223372036854775807) (o0 : 0 ≤ out) (o1 : out ≤ 9223372036854775807) :
    Calls Try.prog 36 #[.pointer (some ⟨b, 0, none⟩), .string s, .bool false] w fun e w' => e = .returned (.int .i64 (wv false wt out c)) ∧ ∃ q, w' = w.drewN q := by
  have c55 := h.c55
  have c56 := h.c56
  have c57 := h.c57
  have HC : Hid (At D s c) := hc
  clear hc
  by_cases hf : out ≤ 9223372036854775807 - wt
  · have hb := both_fits hf
    have HB : Hid (both wt out = wt + out) := hb
    clear hb
    by_cases hlt : wt + out < c
    · go_enter Try.func36, Try.ntmps36
      go_wp2
      go_quiet (fail)
      go_wp2
      go_quiet (fail)
      go_wp2_with (at_lookup; refine wpList_lookup_own_int _ rfl _ _ 83 rfl 9 73 .i64 law9 Try.underlying83 Try.underlying73 (zero73 _) mb n D rfl hm _ _ rfl (keyOf_string_mk Try.underlying9 hs) ?_; intro c' hat hwc; obtain rfl : c = c' := (by have := HC.out.symm.trans hat; simpa using this); clear hat)
      go_ret
      exact ⟨ret_int (wv_hi HB.out hlt), _, rfl⟩
    · go_enter Try.func36, Try.ntmps36
      go_wp2
      go_quiet (fail)
      go_wp2
      go_quiet (fail)
      go_wp2_with (at_lookup; refine wpList_lookup_own_int _ rfl _ _ 83 rfl 9 73 .i64 law9 Try.underlying83 Try.underlying73 (zero73 _) mb n D rfl hm _ _ rfl (keyOf_string_mk Try.underlying9 hs) ?_; intro c' hat hwc; obtain rfl : c = c' := (by have := HC.out.symm.trans hat; simpa using this); clear hat)
      go_ret
      exact ⟨ret_int (wv_lo HB.out (by omega)), _, rfl⟩
  · have hb := both_caps hf
    have HB : Hid (both wt out = 9223372036854775807) := hb
    clear hb
    by_cases hlt : 9223372036854775807 < c
    · go_enter Try.func36, Try.ntmps36
      go_wp2
      go_quiet (fail)
      go_wp2_with (at_lookup; refine wpList_lookup_own_int _ rfl _ _ 83 rfl 9 73 .i64 law9 Try.underlying83 Try.underlying73 (zero73 _) mb n D rfl hm _ _ rfl (keyOf_string_mk Try.underlying9 hs) ?_; intro c' hat hwc; obtain rfl : c = c' := (by have := HC.out.symm.trans hat; simpa using this); clear hat)
      go_ret
      exact ⟨ret_int (wv_hi HB.out hlt), _, rfl⟩
    · go_enter Try.func36, Try.ntmps36
      go_wp2
      go_quiet (fail)
      go_wp2_with (at_lookup; refine wpList_lookup_own_int _ rfl _ _ 83 rfl 9 73 .i64 law9 Try.underlying83 Try.underlying73 (zero73 _) mb n D rfl hm _ _ rfl (keyOf_string_mk Try.underlying9 hs) ?_; intro c' hat hwc; obtain rfl : c = c' := (by have := HC.out.symm.trans hat; simpa using this); clear hat)
      go_ret
      exact ⟨ret_int (wv_lo HB.out (by omega)), _, rfl⟩
end Go.Proofs.Qxb6003726a
