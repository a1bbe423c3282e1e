import Derived.Test.Qxb6003696aDoorRows
import Derived.Test.Qxb6003696aDoorIdsShelf
import Derived.Test.Qxb6003696aDoorIdsPlain
import Derived.WalkKit
import Derived.WalkSpells
import Derived.WalkLawsBesides
import Derived.Deep.QuietTactic
import Derived.BigQuiet
import Derived.RegionTactic
import Derived.OpenShut
namespace Go.Proofs.Qxb6003696aDoor
open Go.RowKit

/-- WHAT THE WALK IS TOLD OF A SLICE OF INTEGERS THAT CAME IN: it is nil; or it leads to a row of 'cap' cells, the numbers 'zs' (the first 'len' are its elements, the rest its spare room), each fitting its kind. -/
def IsRow (k : IntKind) (w : World) (a : Option Addr) (len cap : Nat) (zs : List Int) : Prop :=
  (a = none ∧ len = 0 ∧ cap = 0 ∧ zs = []) ∨
  ∃ x, a = some x ∧ len ≤ cap ∧ cap ≤ maxLen ∧ zs.length = cap ∧ (∀ i, i < zs.length → w.cell? (x.add i) = some (.int k (zs.getD i 0))) ∧ ∀ n ∈ zs, (Lit.int k n).wf = true

/-- A clone: empty, or at the head of a block of its own whose first cells are the numbers. -/
def IsCopy (k : IntKind) (w : World) (a : Option Addr) (len : Nat) (zs : List Int) : Prop :=
  len = 0 ∨ ∃ g, a = some ⟨g, 0, none⟩ ∧ g < w.heap.size ∧ ∀ i, i < len → w.cell? ⟨g, i, none⟩ = some (.int k (zs.getD i 0))

theorem IsCopy.below {k : IntKind} {w w' : World} {a : Option Addr} {len : Nat} {zs : List Int} (h : IsCopy k w a len zs) (hb : Below w.heap.size w w') : IsCopy k w' a len zs := by
  rcases h with h | ⟨g, ha, hg, hc⟩
  · exact .inl h
  · exact .inr ⟨g, ha, by have := hb.size; omega, fun i hi => (hb.cell (p := ⟨g, i, none⟩) hg).trans (hc i hi)⟩

theorem Tryd.info28 : (Tryd.prog.info? 28).map (fun i => (i.zero, i.size, i.bytes)) = some (some (.int .u16 0), 1, 2) := by kernel_rfl
theorem Tryd.info9 : (Tryd.prog.info? 9).map (fun i => (i.zero, i.size, i.bytes)) = some (some (.string ⟨#[]⟩), 1, 16) := by kernel_rfl

theorem blt {w : World} {b o : Nat} {v : Value} (h : w.cell? ⟨b, o, none⟩ = some v) : b < w.heap.size := by
  rcases Nat.lt_or_ge b w.heap.size with h' | h'
  · exact h'
  · simp [World.cell?, Array.getElem?_eq_none h'] at h

/-- What a round of a clone's loop leaves. -/
theorem clone_step {k : IntKind} {wr : World} {B e len : Nat} {xs : List Value} {zs : List Int} {j : Nat} (hj : j < len)
    (hown : wr.ownsRow B e 1 (.slice (some ⟨B, 0, none⟩) len len) len xs) (hx : ∀ i, i < j → xs[i]? = some (.int k (zs.getD i 0))) :
    (wr.setCell ⟨B, j, none⟩ (.int k (zs.getD j 0))).ownsRow B e 1 (.slice (some ⟨B, 0, none⟩) len len) len (xs.set j (.int k (zs.getD j 0))) ∧
    ∀ i, i < j + 1 → (xs.set j (.int k (zs.getD j 0)))[i]? = some (.int k (zs.getD i 0)) := by
  refine ⟨(hown.stored j _).1, fun i hi => ?_⟩
  have hl : xs.length = len := by simpa using hown.1
  rw [List.getElem?_set]
  by_cases h : j = i
  · subst h; rw [if_pos rfl, if_pos (by omega)]
  · rw [if_neg h]; exact hx i (by omega)

theorem clone_end {k : IntKind} {wr : World} {B e len : Nat} {xs : List Value} {zs : List Int}
    (hown : wr.ownsRow B e 1 (.slice (some ⟨B, 0, none⟩) len len) len xs) (hx : ∀ i, i < len → xs[i]? = some (.int k (zs.getD i 0))) : IsCopy k wr (some ⟨B, 0, none⟩) len zs := by
  by_cases h0 : len = 0
  · exact .inl h0
  · have hc : ∀ i, i < len → wr.cell? ⟨B, i, none⟩ = some (.int k (zs.getD i 0)) := fun i hi => (hown.cellAt i (by omega)).trans (hx i hi)
    exact .inr ⟨B, rfl, blt (hc 0 (by omega)), hc⟩

set_option maxHeartbeats 400000 in
theorem cloneU16_some (x : Addr) (len cap : Nat) (zs : List Int) (w : World) (hl : len ≤ 65536) (hlc : len ≤ zs.length) (hc : ∀ i, i < zs.length → w.cell? (x.add i) = some (.int .u16 (zs.getD i 0))) :
    Calls Tryd.prog 6 #[.slice (some x) len cap] w fun e w' => ∃ ad, e = .returned (.slice ad len len) ∧ IsCopy .u16 w' ad len zs ∧ Below w.heap.size w w' := by
  obtain ⟨i0, hi, hz0, hz1, hz2⟩ := info_parts Tryd.info28
  have hnil := fun (w : World) => Lib.run_eql_slice_nil (P := Tryd.prog) w 22 28 (some x) len cap 0 0 Tryd.underlying22
  obtain ⟨b, off, hcx⟩ : ∃ b off, ∀ j, j < len → x = ⟨b, off, none⟩ ∧ b < w.heap.size ∧ w.cell? ⟨b, off + j, none⟩ = some (.int .u16 (zs.getD j 0)) := by
    by_cases h0 : 0 < zs.length
    · obtain ⟨b, off, rfl, h⟩ := ints_at hc h0
      exact ⟨b, off, fun j hj => ⟨rfl, blt (h 0 h0), h j (by omega)⟩⟩
    · exact ⟨0, 0, fun j hj => by omega⟩
  clear hc
  go_enter Tryd.func6, Tryd.ntmps6
  go_wp2_with (at_make; refine wpList_make_full _ rfl _ _ 22 rfl w.heap.size 28 i0 (.int .u16 0) 1 Tryd.underlying22 hi hz0 hz1 .i64 .i64 _ _ len rfl rfl rfl rfl (by rw [hz2]; omega) (by unfold maxLen; omega) (Nat.le_refl _) ?_; intro w0 hown0 hgrow0)
  go_loopw [4] (fun i wr => ∃ (j : Nat) (xs : List Value), j ≤ len ∧ i = .int .i64 j ∧ wr.ownsRow w.heap.size 28 1 (.slice (some ⟨w.heap.size, 0, none⟩) len len) len xs ∧ (∀ i, i < j → xs[i]? = some (.int .u16 (zs.getD i 0))) ∧ Below w.heap.size w wr) (fun i _ => len - (intOf i).toNat)
  case atStart => exact ⟨0, _, Nat.zero_le _, rfl, hown0, fun i h => absurd h (Nat.not_lt_zero i), (Below.refl _ w).grown hgrow0 (Nat.le_refl _) (fun k h => by cases h)⟩
  case round =>
    obtain ⟨j, xs, hj, rfl, hown, hxs, hbel⟩ := hrel
    by_cases hlt : j < len
    · obtain ⟨rfl, hbs, hcj⟩ := hcx j hlt
      have hcj' : wr.cell? ⟨b, off + j, none⟩ = some (.int .u16 (zs.getD j 0)) := (hbel.cell (p := ⟨b, off + j, none⟩) hbs).trans hcj
      have hxl : j < xs.length := by have := hown.1; omega
      have hold : wr.cell? ⟨w.heap.size, j, none⟩ = some xs[j] := (hown.cellAt j (by omega)).trans (by simp [hxl])
      have hfr := hown.frozenAt j
      have R := clone_step (k := .u16) (zs := zs) hlt hown hxs
      clear hcx hown0 hgrow0 hown hcj hxs
      go_wp2
      go_roundw
      case rel => exact ⟨j + 1, _, by omega, by go_num, R.1, R.2, hbel.setCell (p := ⟨w.heap.size, j, none⟩) (Nat.le_refl _) _⟩
      case measure => simp [intOf]; omega
    · have hjl : j = len := by omega
      clear hcx hown0 hgrow0
      go_wp2
      go_ret
      exact ⟨_, rfl, clone_end hown (fun i hi => hxs i (by omega)), hbel⟩

theorem cloneU16_any (a : Option Addr) (len cap : Nat) (zs : List Int) (w : World) (hr : IsRow .u16 w a len cap zs) (hl : len ≤ 65536) :
    Calls Tryd.prog 6 #[.slice a len cap] w fun e w' => ∃ ad, e = .returned (.slice ad len len) ∧ IsCopy .u16 w' ad len zs ∧ Below w.heap.size w w' := by
  rcases hr with ⟨rfl, rfl, rfl, rfl⟩ | ⟨x, rfl, hlc, _, hz, hc, _⟩
  · have hnil := fun (w : World) => Lib.run_eql_slice_nil (P := Tryd.prog) w 22 28 none 0 0 0 0 Tryd.underlying22
    go_enter Tryd.func6, Tryd.ntmps6
    go_wp2
    go_ret
    exact ⟨_, rfl, .inl rfl, Below.refl _ _⟩
  · exact cloneU16_some x len cap zs w hl (by omega) hc

theorem isRow_len {k : IntKind} {w : World} {a : Option Addr} {len cap : Nat} {zs : List Int} (h : IsRow k w a len cap zs) : len ≤ maxLen := by
  rcases h with ⟨_, rfl, _⟩ | ⟨_, _, h1, h2, _⟩
  · exact Nat.zero_le _
  · exact Nat.le_trans h1 h2
theorem isRow_wf {k : IntKind} {w : World} {a : Option Addr} {len cap : Nat} {zs : List Int} (h : IsRow k w a len cap zs) : ∀ n ∈ zs, (Lit.int k n).wf = true := by
  rcases h with ⟨_, _, _, rfl⟩ | ⟨_, _, _, _, _, _, h⟩
  · simp
  · exact h
theorem isCopy_at {k : IntKind} {w : World} {a : Option Addr} {len : Nat} {zs : List Int} (h : IsCopy k w a len zs) {j : Nat} (hj : j < len) :
    ∃ g, a = some ⟨g, 0, none⟩ ∧ g < w.heap.size ∧ ∀ i, i < len → w.cell? ⟨g, i, none⟩ = some (.int k (zs.getD i 0)) := by
  rcases h with h | h
  · omega
  · exact h
theorem getD_bd {zs : List Int} {lo hi : Int} (h0 : lo ≤ 0) (h1 : 0 ≤ hi) (h : ∀ n ∈ zs, lo ≤ n ∧ n ≤ hi) (j : Nat) : lo ≤ zs.getD j 0 ∧ zs.getD j 0 ≤ hi := by
  rw [List.getD_eq_getElem?_getD]
  rcases Nat.lt_or_ge j zs.length with hj | hj
  · rw [List.getElem?_eq_getElem hj]; exact h _ (List.getElem_mem hj)
  · rw [List.getElem?_eq_none hj]; exact ⟨h0, h1⟩

set_option maxHeartbeats 400000 in
theorem bytes_any (a1 : Option Addr) (l1 c1 : Nat) (w : World) (h1 : l1 ≤ maxLen) :
    Calls Tryd.prog 5 #[.slice a1 l1 c1] w fun e w' => ∃ b : Bool, e = .returned (.bool b) ∧ w' = w := by
  unfold maxLen at h1
  go_enter Tryd.func5, Tryd.ntmps5
  go_wp2
  all_goals
    go_ret
    exact ⟨_, rfl, rfl⟩
end Go.Proofs.Qxb6003696aDoor
