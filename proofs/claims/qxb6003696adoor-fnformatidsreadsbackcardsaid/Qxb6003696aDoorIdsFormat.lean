import Derived.Test.Qxb6003696aDoorIdsClone
namespace Go.Proofs.Qxb6003696aDoor
open Go.RowKit

theorem tab_below {P : Program} {n : String} {k : IntKind} {zs : List Int} {w w' : World} (h : Lib.TabIs P w n k zs) (hb : Below w.heap.size w w') : Lib.TabIs P w' n k zs := by
  unfold Lib.TabIs World.var? at *
  cases hg : P.globalNamed n with
  | none => rw [hg] at h; exact absurd h (by simp)
  | some g =>
    rw [hg] at h
    simp only [Option.bind_some] at h ⊢
    rcases Nat.lt_or_ge g w.heap.size with hlt | hge
    · rw [hb.block g hlt]; exact h
    · rw [Array.getElem?_eq_none hge] at h; simp at h

theorem below_grow (w : World) (k : Nat) (os : Array Obj) : Below w.heap.size w (Sort.grow (w.drewN k) os) := by
  refine ⟨rfl, rfl, rfl, ?_, fun j hj => ?_⟩
  · simp [Sort.grow, World.drewN]
  · show (w.heap ++ os)[j]? = _
    rw [Array.getElem?_append_left hj]

theorem own_below {w w' : World} {B e size n : Nat} {v : Value} {xs : List Value} (h : w.ownsRow B e size v n xs) (hb : Below w.heap.size w w') : w'.ownsRow B e size v n xs := by
  refine ⟨h.1, ?_⟩
  rcases h.2 with hn | ⟨g, cap, cur, rfl, hg, hgg, rest⟩
  · exact .inl hn
  · exact .inr ⟨g, cap, cur, rfl, hg, by rw [hb.block g (Array.getElem?_eq_some_iff.1 hgg).1]; exact hgg, rest⟩

/-- The numbers, as naturals; their text. -/
def nums (zs : List Int) (n : Nat) : List Nat := (List.range n).map fun i => (zs.getD i 0).toNat
def strOf (z : Int) : ByteArray := ⟨(Lib.itoa z).toArray⟩
def strs (zs : List Int) (n : Nat) : List ByteArray := (List.range n).map fun i => strOf (zs.getD i 0)
def textOf (zs : List Int) (n : Nat) : List UInt8 := Lib.join ((nums zs n).map Lib.decDigits) [44]

theorem strs_length (zs : List Int) (n : Nat) : (strs zs n).length = n := by simp [strs]
theorem strs_get (zs : List Int) (n i : Nat) (h : i < n) : (strs zs n)[i]? = some (strOf (zs.getD i 0)) := by simp [strs, h]

theorem join_strs {zs : List Int} (hz : ∀ j, 0 ≤ zs.getD j 0) (n : Nat) : Lib.join ((strs zs n).map (·.data.toList)) [44] = textOf zs n := by
  unfold textOf strs nums
  congr 1
  rw [List.map_map, List.map_map]
  refine List.map_congr_left fun i _ => ?_
  have h := hz i
  simp only [Function.comp, strOf, Lib.itoa]
  rw [if_neg (by omega)]

theorem text_len {zs : List Int} (hz : ∀ j, 0 ≤ zs.getD j 0 ∧ zs.getD j 0 ≤ 65535) {n : Nat} (hn : n ≤ 65536) : (textOf zs n).length ≤ 4295098368 := by
  have h := join_len (nums zs n) 65535 (by
    intro m hm
    simp only [nums, List.mem_map] at hm
    obtain ⟨i, _, rfl⟩ := hm
    have := hz i
    omega)
  have h2 : (nums zs n).length = n := by simp [nums]
  rw [h2] at h
  have h3 : n * (65535 + 2) ≤ 65536 * (65535 + 2) := Nat.mul_le_mul_right _ hn
  unfold textOf
  omega

theorem format_step {wr : World} {B n : Nat} {xs : List Value} {zs : List Int} {j : Nat} (hj : j < n)
    (hown : wr.ownsRow B 9 1 (.slice (some ⟨B, 0, none⟩) n n) n xs) (hx : ∀ i, i < j → xs[i]? = some (.string (strOf (zs.getD i 0)))) :
    (wr.setCell ⟨B, j, none⟩ (.string (strOf (zs.getD j 0)))).ownsRow B 9 1 (.slice (some ⟨B, 0, none⟩) n n) n (xs.set j (.string (strOf (zs.getD j 0)))) ∧
    ∀ i, i < j + 1 → (xs.set j (.string (strOf (zs.getD j 0))))[i]? = some (.string (strOf (zs.getD i 0))) := by
  refine ⟨(hown.stored j _).1, fun i hi => ?_⟩
  have hl : xs.length = n := by simpa using hown.1
  rw [List.getElem?_set]
  by_cases h : j = i
  · subst h; rw [if_pos rfl, if_pos (by omega)]
  · rw [if_neg h]; exact hx i (by omega)

set_option maxHeartbeats 400000 in
theorem format_any (g n : Nat) (zs : List Int) (w : World) (hn : n ≤ 65536) (h0 : 0 < n) (hz : ∀ j, 0 ≤ zs.getD j 0 ∧ zs.getD j 0 ≤ 65535) (hg : g < w.heap.size) (hc : ∀ i, i < n → w.cell? ⟨g, i, none⟩ = some (.int .u16 (zs.getD i 0)))
    (htab : Lib.TabIs Tryd.prog w powName .u64 Lib.pow10Tab) :
    Calls Tryd.prog 7 #[.slice (some ⟨g, 0, none⟩) n n] w fun e w' => e = .returned (.string ⟨(textOf zs n).toArray⟩) ∧ Below w.heap.size w w' := by
  obtain ⟨i0, hi, hz0, hz1, hz2⟩ := info_parts Tryd.info9
  have HT : Hid (∀ w', Below w.heap.size w w' → Lib.TabIs Tryd.prog w' powName .u64 Lib.pow10Tab) := fun w' hb => tab_below htab hb
  have HC : Hid (∀ i, i < n → w.cell? ⟨g, i, none⟩ = some (.int .u16 (zs.getD i 0))) := hc
  have HZ : Hid (∀ j, 0 ≤ zs.getD j 0 ∧ zs.getD j 0 ≤ 65535) := hz
  clear hc htab hz
  go_enter Tryd.func7, Tryd.ntmps7
  go_wp2_with (at_make; refine wpList_make_full _ rfl _ _ 29 rfl w.heap.size 9 i0 (.string ⟨#[]⟩) 1 Tryd.underlying29 hi hz0 hz1 .i64 .i64 _ _ n rfl rfl rfl rfl (by rw [hz2]; omega) (by unfold maxLen; omega) (Nat.le_refl _) ?_; intro w0 hown0 hgrow0)
  go_loopw [11] (fun i wr => ∃ (j : Nat) (xs : List Value), j ≤ n ∧ i = .int .i64 j ∧ wr.ownsRow w.heap.size 9 1 (.slice (some ⟨w.heap.size, 0, none⟩) n n) n xs ∧ (∀ i, i < j → xs[i]? = some (.string (strOf (zs.getD i 0)))) ∧ Below w.heap.size w wr) (fun i _ => n - (intOf i).toNat)
  case atStart => exact ⟨0, _, Nat.zero_le _, rfl, hown0, fun i h => absurd h (Nat.not_lt_zero i), (Below.refl _ w).grown hgrow0 (Nat.le_refl _) (fun k h => by cases h)⟩
  case round =>
    obtain ⟨j, xs, hj, rfl, hown, hxs, hbel⟩ := hrel
    by_cases hlt : j < n
    · obtain ⟨z, ez⟩ : ∃ z, zs.getD j 0 = z := ⟨_, rfl⟩
      have hcj : wr.cell? ⟨g, j, none⟩ = some (.int .u16 z) := by rw [hbel.cell (p := ⟨g, j, none⟩) hg, HC.out j hlt, ez]
      have hzb := HZ.out j
      rw [ez] at hzb
      have EZ : Hid (zs.getD j 0 = z) := ez
      have HX : Hid (∀ i, i < j → xs[i]? = some (.string (strOf (zs.getD i 0)))) := hxs
      clear ez hxs hown0 hgrow0
      go_wp2_with fail
      refine (Tryd.strconv_Itoa z (by omega) (by omega) _ (HT.out _ hbel)).mono ?_
      rintro e w1 ⟨rfl, kk, os, hw1⟩
      have hb1 : Below wr.heap.size wr w1 := by rw [hw1]; exact below_grow _ _ _
      clear hw1
      have hown1 := own_below hown hb1
      have hbel1 : Below w.heap.size w w1 := hbel.trans (hb1.mono hbel.size)
      have hxl : j < xs.length := by have := hown1.1; omega
      have hold : w1.cell? ⟨w.heap.size, j, none⟩ = some xs[j] := (hown1.cellAt j (by omega)).trans (by simp [hxl])
      have hfr := hown1.frozenAt j
      have R := format_step (zs := zs) hlt hown1 HX.out
      rw [EZ.out] at R
      clear hown hown1 hb1 HX hcj hbel
      go_wp2
      go_roundw
      case rel => exact ⟨j + 1, _, by omega, by go_num, R.1, R.2, hbel1.setCell (p := ⟨w.heap.size, j, none⟩) (Nat.le_refl _) _⟩
      case measure => simp [intOf]; omega
    · obtain rfl : n = j := by omega
      have HX : Hid (∀ i, i < n → xs[i]? = some (.string (strOf (zs.getD i 0)))) := hxs
      clear hxs hown0 hgrow0
      have hcell : ∀ (j : Nat) x, (strs zs n)[j]? = some x → wr.cell? ⟨w.heap.size, 0 + j, none⟩ = some (.string x) := by
        intro j x hx
        have hjn : j < n := by have := (List.getElem?_eq_some_iff.1 hx).1; rw [strs_length] at this; exact this
        rw [strs_get _ _ _ hjn] at hx
        rw [Nat.zero_add, hown.cellAt j (by omega), HX.out j hjn]
        cases hx; rfl
      have hbk : w.heap.size < wr.heap.size := blt (hcell 0 _ (strs_get zs n 0 h0))
      have hjt := join_strs (fun j => (HZ.out j).1) n
      have C := Tryd.strings_Join w.heap.size 0 n (strs zs n) ⟨#[44]⟩ wr hcell hbk (by rw [strs_length]; omega) (by rw [strs_length]; exact Nat.le_refl _) (by
        have := text_len HZ.out hn
        rw [← hjt] at this
        exact Nat.le_trans this (by omega))
      rw [strs_length] at C
      have HCC : Hid (Calls Tryd.prog 12 #[.slice (some ⟨w.heap.size, 0, none⟩) n n, .string ⟨#[44]⟩] wr fun e w' => e = .returned (.string ⟨(Lib.join ((strs zs n).map (·.data.toList)) [44]).toArray⟩) ∧ Below wr.heap.size wr w') := C
      clear C hcell hown HX
      go_wp2_with fail
      refine HCC.out.mono ?_
      rintro e w2 ⟨rfl, hb2⟩
      go_wp2
      go_ret
      exact ⟨by rw [← hjt]; rfl, hbel.trans (hb2.mono hbel.size)⟩
end Go.Proofs.Qxb6003696aDoor
