import Derived.Test.Qxb6003726aRows
import Derived.WalkKit
import Derived.WalkSpells
import Derived.WalkLawsBesides
import Derived.Deep.QuietTactic
import Derived.BigQuiet
import Derived.RegionTactic
import Derived.OpenShut
import Derived.Laws.CopyOwn
import Derived.Deep.CutRange
namespace Go.Proofs.Qxb6003726a
open Go.RowKit

/-- WHAT THE WALK IS TOLD OF A SLICE OF INTEGERS THAT CAME IN: it is nil; or it leads to a row of 'cap' cells, the numbers 'zs' (the first 'len' are its elements, the rest its spare room), each fitting its kind. -/
def IsRow (k : IntKind) (w : World) (a : Option Addr) (len cap : Nat) (zs : List Int) : Prop :=
  (a = none ∧ len = 0 ∧ cap = 0 ∧ zs = []) ∨
  ∃ x, a = some x ∧ len ≤ cap ∧ cap ≤ maxLen ∧ zs.length = cap ∧ (∀ i, i < zs.length → w.cell? (x.add i) = some (.int k (zs.getD i 0))) ∧ ∀ n ∈ zs, (Lit.int k n).wf = true

/-- A clone: empty, or at the head of a block of its own whose first cells are the numbers. -/
def IsCopy (k : IntKind) (w : World) (a : Option Addr) (len : Nat) (zs : List Int) : Prop :=
  len = 0 ∨ ∃ g, a = some ⟨g, 0, none⟩ ∧ g < w.heap.size ∧ ∀ i, i < len → w.cell? ⟨g, i, none⟩ = some (.int k (zs.getD i 0))

theorem IsCopy.below {k : IntKind} {w w' : World} {a : Option Addr} {len : Nat} {zs : List Int} (h : IsCopy k w a len zs) (hb : Below w.heap.size w w') : IsCopy k w' a len zs := by
  rcases h with h | ⟨g, ha, hg, hc⟩
  · exact .inl h
  · exact .inr ⟨g, ha, by have := hb.size; omega, fun i hi => (hb.cell (p := ⟨g, i, none⟩) hg).trans (hc i hi)⟩

theorem isRow_below {k : IntKind} {w w' : World} {a : Option Addr} {len cap : Nat} {zs : List Int} (h : IsRow k w a len cap zs) (hb : Below w.heap.size w w') : IsRow k w' a len cap zs := by
  rcases h with h | ⟨x, ha, h1, h2, h3, h4, h5⟩
  · exact .inl h
  · refine .inr ⟨x, ha, h1, h2, h3, fun i hi => ?_, h5⟩
    have h := h4 i hi
    have hlt : (x.add i).block < w.heap.size := by
      rcases Nat.lt_or_ge (x.add i).block w.heap.size with h' | h'
      · exact h'
      · simp [World.cell?, Array.getElem?_eq_none h'] at h
    rw [hb.cell hlt]; exact h

theorem isCopy_at {k : IntKind} {w : World} {a : Option Addr} {len : Nat} {zs : List Int} (h : IsCopy k w a len zs) {j : Nat} (hj : j < len) :
    ∃ g, a = some ⟨g, 0, none⟩ ∧ g < w.heap.size ∧ ∀ i, i < len → w.cell? ⟨g, i, none⟩ = some (.int k (zs.getD i 0)) := by
  rcases h with h | h
  · omega
  · exact h

theorem isRow_len {k : IntKind} {w : World} {a : Option Addr} {len cap : Nat} {zs : List Int} (h : IsRow k w a len cap zs) : len ≤ maxLen := by
  rcases h with ⟨_, rfl, _⟩ | ⟨_, _, h1, h2, _⟩
  · exact Nat.zero_le _
  · exact Nat.le_trans h1 h2
theorem isRow_wf {k : IntKind} {w : World} {a : Option Addr} {len cap : Nat} {zs : List Int} (h : IsRow k w a len cap zs) : ∀ n ∈ zs, (Lit.int k n).wf = true := by
  rcases h with ⟨_, _, _, rfl⟩ | ⟨_, _, _, _, _, _, h⟩
  · simp
  · exact h
theorem getD_bd {zs : List Int} {lo hi : Int} (h0 : lo ≤ 0) (h1 : 0 ≤ hi) (h : ∀ n ∈ zs, lo ≤ n ∧ n ≤ hi) (j : Nat) : lo ≤ zs.getD j 0 ∧ zs.getD j 0 ≤ hi := by
  rw [List.getD_eq_getElem?_getD]
  rcases Nat.lt_or_ge j zs.length with hj | hj
  · rw [List.getElem?_eq_getElem hj]; exact h _ (List.getElem_mem hj)
  · rw [List.getElem?_eq_none hj]; exact ⟨h0, h1⟩

theorem blt {w : World} {b o : Nat} {v : Value} (h : w.cell? ⟨b, o, none⟩ = some v) : b < w.heap.size := by
  rcases Nat.lt_or_ge b w.heap.size with h' | h'
  · exact h'
  · simp [World.cell?, Array.getElem?_eq_none h'] at h

theorem Try.info5 : (Try.prog.info? 5).map (fun i => (i.zero, i.size, i.bytes)) = some (some (.int .u8 0), 1, 1) := by kernel_rfl
theorem Try.info2 : (Try.prog.info? 2).map (fun i => (i.zero, i.size, i.bytes)) = some (some (.int .i64 0), 1, 8) := by kernel_rfl
theorem Try.size5 : (Try.prog.info? 5).map (·.size) = some 1 := by kernel_rfl
theorem Try.size2 : (Try.prog.info? 2).map (·.size) = some 1 := by kernel_rfl

/-- What is copied: the first 'len' numbers, as cells. -/
def vals (k : IntKind) (len : Nat) (zs : List Int) : List Value := (List.range len).map fun i => .int k (zs.getD i 0)
theorem vals_length (k : IntKind) (len : Nat) (zs : List Int) : (vals k len zs).length = len := by simp [vals]
theorem vals_get (k : IntKind) (len : Nat) (zs : List Int) (i : Nat) (h : i < len) : (vals k len zs)[i]? = some (.int k (zs.getD i 0)) := by simp [vals, h]
theorem vals_one (k : IntKind) (len : Nat) (zs : List Int) : ∀ v ∈ vals k len zs, v.oneCell' = true := by
  intro v hv
  simp only [vals, List.mem_map] at hv
  obtain ⟨i, _, rfl⟩ := hv
  rfl

theorem copy_end {k : IntKind} {w : World} {g len e : Nat} {cur : List Value} {zs : List Int} (hc : cur.length = len) (h : w.heap[g]? = some (.cells (splice cur 0 (vals k len zs)).toArray e (0, 0))) : IsCopy k w (some ⟨g, 0, none⟩) len zs := by
  refine .inr ⟨g, rfl, lt_of_block h, fun i hi => ?_⟩
  have hs : splice cur 0 (vals k len zs) = vals k len zs := by
    unfold splice
    rw [List.take_zero, List.nil_append, Nat.zero_add, vals_length, List.drop_of_length_le (by omega), List.append_nil]
  rw [hs] at h
  simp only [World.cell?, h]
  simpa using vals_get k len zs i hi

theorem own_row {w : World} {B e g n : Nat} {xs : List Value} (h : w.ownsRow B e 1 (.slice (some ⟨g, 0, none⟩) n n) n xs) : ∃ cur : List Value, cur.length = n ∧ w.heap[g]? = some (.cells cur.toArray e (0, 0)) := by
  rcases h.2 with ⟨h', _⟩ | ⟨g', cap', cur, h', _, hg, _, _, hsz, _⟩
  · simp at h'
  · simp only [Value.slice.injEq, Option.some.injEq, Addr.mk.injEq, and_true, true_and] at h'
    obtain ⟨rfl, rfl⟩ := h'
    exact ⟨cur.toList, by simpa using hsz, by simpa using hg⟩

set_option maxHeartbeats 400000 in
theorem cloneBytes_some (x : Addr) (len cap : Nat) (zs : List Int) (w : World) (hl : len ≤ 1048576) (hlc : len ≤ zs.length) (hc : ∀ i, i < zs.length → w.cell? (x.add i) = some (.int .u8 (zs.getD i 0))) :
    Calls Try.prog 17 #[.slice (some x) len cap] w fun e w' => ∃ ad, e = .returned (.slice ad len len) ∧ IsCopy .u8 w' ad len zs ∧ Below w.heap.size w w' := by
  obtain ⟨i0, hi, hz0, hz1, hz2⟩ := info_parts Try.info5
  have hnil := fun (w : World) => Lib.run_eql_slice_nil (P := Try.prog) w 30 5 (some x) len cap 0 0 Try.underlying30
  have HC : Hid (∀ w', Below w.heap.size w w' → ∀ j v, (vals .u8 len zs)[j]? = some v → w'.cell? (x.add j) = some v) := by
    intro w' hb j v hv
    have hj : j < len := by have := List.getElem?_eq_some_iff.1 hv; obtain ⟨h, _⟩ := this; rw [vals_length] at h; exact h
    rw [vals_get _ _ _ _ hj] at hv
    have h := hc j (by omega)
    have hlt : (x.add j).block < w.heap.size := by
      rcases Nat.lt_or_ge (x.add j).block w.heap.size with h' | h'
      · exact h'
      · simp [World.cell?, Array.getElem?_eq_none h'] at h
    rw [hb.cell hlt, h]; exact hv
  clear hc
  go_enter Try.func17, Try.ntmps17
  go_upto_region 4 with (at_make; refine wpList_make_full _ rfl _ _ 30 rfl w.heap.size 5 i0 (.int .u8 0) 1 Try.underlying30 hi hz0 hz1 .i64 .i64 _ _ len rfl rfl rfl rfl (by rw [hz2]; omega) (by unfold maxLen; omega) (Nat.le_refl _) ?_; intro w0 hown0 hgrow0; have hb0 := (Below.refl w.heap.size w).grown hgrow0 (Nat.le_refl _) (fun k h => by cases h); obtain ⟨cur, hcl, hcur⟩ := own_row hown0; have HG := (show Hid (w0.heap[w.heap.size]? = some (.cells cur.toArray 5 (0, 0))) from hcur); clear hown0 hgrow0 hcur)
  go_wp2_with (refine wpList_copy_splice rfl (.tmp 9) (.tmp 10) 30 30 rfl 5 Try.underlying30 Try.size5 _ _ _ _ _ _ rfl rfl w.heap.size 0 cur 5 HG.out (vals .u8 len zs) (by simp [vals_length]) (fun _ => ⟨rfl, x, rfl, HC.out _ hb0⟩) (by rw [vals_length]; omega) (vals_one _ _ _) w.heap.size w hb0 (Nat.le_refl _) ?_; intro w1 HG1 hb1)
  go_ret
  exact ⟨_, rfl, copy_end hcl HG1.out, hb1⟩

theorem cloneBytes_any (a : Option Addr) (len cap : Nat) (zs : List Int) (w : World) (hr : IsRow .u8 w a len cap zs) (hl : len ≤ 1048576) :
    Calls Try.prog 17 #[.slice a len cap] w fun e w' => ∃ ad, e = .returned (.slice ad len len) ∧ IsCopy .u8 w' ad len zs ∧ Below w.heap.size w w' := by
  rcases hr with ⟨rfl, rfl, rfl, rfl⟩ | ⟨x, rfl, hlc, _, hz, hc, _⟩
  · have hnil := fun (w : World) => Lib.run_eql_slice_nil (P := Try.prog) w 30 5 none 0 0 0 0 Try.underlying30
    go_enter Try.func17, Try.ntmps17
    go_wp2
    go_ret
    exact ⟨_, rfl, .inl rfl, Below.refl _ _⟩
  · exact cloneBytes_some x len cap zs w hl (by omega) hc
set_option maxHeartbeats 400000 in
theorem cloneInts_some (x : Addr) (len cap : Nat) (zs : List Int) (w : World) (hl : len ≤ 1048576) (hlc : len ≤ zs.length) (hc : ∀ i, i < zs.length → w.cell? (x.add i) = some (.int .i64 (zs.getD i 0))) :
    Calls Try.prog 27 #[.slice (some x) len cap] w fun e w' => ∃ ad, e = .returned (.slice ad len len) ∧ IsCopy .i64 w' ad len zs ∧ Below w.heap.size w w' := by
  obtain ⟨i0, hi, hz0, hz1, hz2⟩ := info_parts Try.info2
  have hnil := fun (w : World) => Lib.run_eql_slice_nil (P := Try.prog) w 59 2 (some x) len cap 0 0 Try.underlying59
  have HC : Hid (∀ w', Below w.heap.size w w' → ∀ j v, (vals .i64 len zs)[j]? = some v → w'.cell? (x.add j) = some v) := by
    intro w' hb j v hv
    have hj : j < len := by have := List.getElem?_eq_some_iff.1 hv; obtain ⟨h, _⟩ := this; rw [vals_length] at h; exact h
    rw [vals_get _ _ _ _ hj] at hv
    have h := hc j (by omega)
    have hlt : (x.add j).block < w.heap.size := by
      rcases Nat.lt_or_ge (x.add j).block w.heap.size with h' | h'
      · exact h'
      · simp [World.cell?, Array.getElem?_eq_none h'] at h
    rw [hb.cell hlt, h]; exact hv
  clear hc
  go_enter Try.func27, Try.ntmps27
  go_upto_region 4 with (at_make; refine wpList_make_full _ rfl _ _ 59 rfl w.heap.size 2 i0 (.int .i64 0) 1 Try.underlying59 hi hz0 hz1 .i64 .i64 _ _ len rfl rfl rfl rfl (by rw [hz2]; omega) (by unfold maxLen; omega) (Nat.le_refl _) ?_; intro w0 hown0 hgrow0; have hb0 := (Below.refl w.heap.size w).grown hgrow0 (Nat.le_refl _) (fun k h => by cases h); obtain ⟨cur, hcl, hcur⟩ := own_row hown0; have HG := (show Hid (w0.heap[w.heap.size]? = some (.cells cur.toArray 2 (0, 0))) from hcur); clear hown0 hgrow0 hcur)
  go_wp2_with (refine wpList_copy_splice rfl (.tmp 9) (.tmp 10) 59 59 rfl 2 Try.underlying59 Try.size2 _ _ _ _ _ _ rfl rfl w.heap.size 0 cur 2 HG.out (vals .i64 len zs) (by simp [vals_length]) (fun _ => ⟨rfl, x, rfl, HC.out _ hb0⟩) (by rw [vals_length]; omega) (vals_one _ _ _) w.heap.size w hb0 (Nat.le_refl _) ?_; intro w1 HG1 hb1)
  go_ret
  exact ⟨_, rfl, copy_end hcl HG1.out, hb1⟩

theorem cloneInts_any (a : Option Addr) (len cap : Nat) (zs : List Int) (w : World) (hr : IsRow .i64 w a len cap zs) (hl : len ≤ 1048576) :
    Calls Try.prog 27 #[.slice a len cap] w fun e w' => ∃ ad, e = .returned (.slice ad len len) ∧ IsCopy .i64 w' ad len zs ∧ Below w.heap.size w w' := by
  rcases hr with ⟨rfl, rfl, rfl, rfl⟩ | ⟨x, rfl, hlc, _, hz, hc, _⟩
  · have hnil := fun (w : World) => Lib.run_eql_slice_nil (P := Try.prog) w 59 2 none 0 0 0 0 Try.underlying59
    go_enter Try.func27, Try.ntmps27
    go_wp2
    go_ret
    exact ⟨_, rfl, .inl rfl, Below.refl _ _⟩
  · exact cloneInts_some x len cap zs w hl (by omega) hc
end Go.Proofs.Qxb6003726a
