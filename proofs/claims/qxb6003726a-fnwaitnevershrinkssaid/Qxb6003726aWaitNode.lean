import Derived.Test.Qxb6003726aWaitFor
import Derived.Deep.CutRange
namespace Go.Proofs.Qxb6003726a
open Go.RowKit Go.Maps Go.WideMaps Go.WideElems

/-- A struct built, AT THE OPERATION: by the run's own equation. -/
theorem wpList_build {P : Program} (w : World) {ops : Array Oper} {rest : List Oper} {o : Oper} {a : Act} {Q : Exit → Act → World → Prop}
    (hg : o.guard = none) (t : TypeId) (parts : Array (Nat × Operand)) (hop : o.op = Op.build t parts) (vs : Array (Nat × Value)) (hvs : (parts.map fun (i, x) => (i, a.eval x)) = vs) (v : Value)
    (hrun : (Instr.build t vs).run P w = .ok v w) (hK : wpList P ops Q rest (a.put o.dst v) w) : wpList P ops Q (o :: rest) a w := by
  refine wpList_plain hg fun K hK' => ?_
  unfold Oper.wp
  simp [execOp, hop, hvs, hrun, Result.andThen]
  exact hK' _ _ hK

theorem build94 (id : ByteArray) (inc p wt : Int) (m1 m2 m3 m4 m5 m6 m7 m8 m9 m10 m11 m12 m13 m14 m15 m16 : Nat) :
    ∃ cs : Array Value, (∀ w : World, (Instr.build 94 #[(0, .string id), (42, .int .u64 inc), (43, .int .u64 1), (38, .int .i64 p), (39, .int .i64 wt), (41, .map (some m1)), (1, .map (some m2)), (2, .map (some m3)), (3, .map (some m4)), (4, .map (some m5)), (5, .map (some m6)), (6, .map (some m7)), (9, .map (some m8)), (10, .map (some m9)), (11, .map (some m10)), (7, .map (some m11)), (33, .map (some m12)), (34, .map (some m13)), (35, .map (some m14)), (36, .map (some m15)), (47, .bool true), (48, .map (some m16))]).run Try.prog w = .ok (.agg cs) w) ∧ cs.size = 66 ∧
      cs[55]? = some (.int .i64 wt) ∧ cs[56]? = some (.int .i64 0) ∧ cs[57]? = some (.map (some m1)) ∧ cs[20]? = some (.bool false) ∧ cs[3]? = some (.map (some m4)) ∧ cs[4]? = some (.map (some m5)) ∧ cs[48]? = some (.bool false) :=
  ⟨(match (Instr.build 94 #[(0, .string id), (42, .int .u64 inc), (43, .int .u64 1), (38, .int .i64 p), (39, .int .i64 wt), (41, .map (some m1)), (1, .map (some m2)), (2, .map (some m3)), (3, .map (some m4)), (4, .map (some m5)), (5, .map (some m6)), (6, .map (some m7)), (9, .map (some m8)), (10, .map (some m9)), (11, .map (some m10)), (7, .map (some m11)), (33, .map (some m12)), (34, .map (some m13)), (35, .map (some m14)), (36, .map (some m15)), (47, .bool true), (48, .map (some m16))]).run Try.prog default with | .ok (.agg c) _ => c | _ => #[]), fun _ => by kernel_rfl, by kernel_rfl, by kernel_rfl, by kernel_rfl, by kernel_rfl, by kernel_rfl, by kernel_rfl, by kernel_rfl, by kernel_rfl⟩

/-- A node as it is laid: its block, three of its maps, all empty. -/
def Fresh (w wx : World) (wt : Int) (b m1 m4 m5 : Nat) : Prop :=
  ∃ cs : Array Value, wx.heap[b]? = some (.cells cs 94 (0, 0)) ∧ cs[55]? = some (.int .i64 wt) ∧ cs[56]? = some (.int .i64 0) ∧ cs[57]? = some (.map (some m1)) ∧ cs[20]? = some (.bool false) ∧ cs[3]? = some (.map (some m4)) ∧ cs[4]? = some (.map (some m5)) ∧ cs[48]? = some (.bool false) ∧
    wx.heap[m1]? = some (.map #[] 0) ∧ wx.heap[m4]? = some (.map #[] 0) ∧ wx.heap[m5]? = some (.map #[] 0) ∧ w.heap.size ≤ b ∧ w.heap.size ≤ m1 ∧ w.heap.size ≤ m4 ∧ w.heap.size ≤ m5 ∧ m1 ≠ b ∧ m4 ≠ b ∧ m5 ≠ b ∧ m1 ≠ m4 ∧ m1 ≠ m5 ∧ m4 ≠ m5 ∧ Below w.heap.size w wx

/-- Blocks laid one behind the other. -/
def lays (w : World) (os : List Obj) : World := os.foldl World.alloc w
theorem lays_at : ∀ (os : List Obj) (w : World) (i : Nat), i < os.length → (lays w os).heap[w.heap.size + i]? = os[i]?
  | [], _, _, h => absurd h (by simp)
  | o :: os, w, i, h => by
    show (lays (w.alloc o) os).heap[w.heap.size + i]? = _
    cases i with
    | zero =>
      have hk : ∀ (os : List Obj) (w' : World), w.heap.size < w'.heap.size → (lays w' os).heap[w.heap.size]? = w'.heap[w.heap.size]? := by
        intro os
        induction os with
        | nil => intro w' _; rfl
        | cons x os ih => intro w' hw; exact (ih (w'.alloc x) (by simp; omega)).trans (Below.heap_alloc _ _ _ hw)
      rw [Nat.add_zero, hk os (w.alloc o) (by simp)]
      exact heap_alloc_new w o
    | succ i =>
      have := lays_at os (w.alloc o) i (by simpa using h)
      rw [show (w.alloc o).heap.size + i = w.heap.size + (i + 1) by simp; omega] at this
      rw [this]; rfl
theorem lays_below : ∀ (os : List Obj) (w w0 : World), Below w0.heap.size w0 w → Below w0.heap.size w0 (lays w os)
  | [], _, _, h => h
  | o :: os, w, w0, h => lays_below os (w.alloc o) w0 (h.alloc h.size o)

theorem fresh_mk (w : World) (o0 : Obj) (cs : Array Value) (wt : Int) (k55 : cs[55]? = some (.int .i64 wt)) (k56 : cs[56]? = some (.int .i64 0)) (k57 : cs[57]? = some (.map (some (w.heap.size + 1)))) (k20 : cs[20]? = some (.bool false)) (k3 : cs[3]? = some (.map (some (w.heap.size + 1 + 1 + 1 + 1)))) (k4 : cs[4]? = some (.map (some (w.heap.size + 1 + 1 + 1 + 1 + 1)))) (k48 : cs[48]? = some (.bool false)) :
    Fresh w ((((((((((((((((((w.alloc o0).alloc (.map #[] 0)).alloc (.map #[] 0)).alloc (.map #[] 0)).alloc (.map #[] 0)).alloc (.map #[] 0)).alloc (.map #[] 0)).alloc (.map #[] 0)).alloc (.map #[] 0)).alloc (.map #[] 0)).alloc (.map #[] 0)).alloc (.map #[] 0)).alloc (.map #[] 0)).alloc (.map #[] 0)).alloc (.map #[] 0)).alloc (.map #[] 0)).alloc (.map #[] 0)).alloc (.cells cs 94)) wt (w.heap.size + 1 + 1 + 1 + 1 + 1 + 1 + 1 + 1 + 1 + 1 + 1 + 1 + 1 + 1 + 1 + 1 + 1) (w.heap.size + 1) (w.heap.size + 1 + 1 + 1 + 1) (w.heap.size + 1 + 1 + 1 + 1 + 1) := by
  show Fresh w (lays w [o0, .map #[] 0, .map #[] 0, .map #[] 0, .map #[] 0, .map #[] 0, .map #[] 0, .map #[] 0, .map #[] 0, .map #[] 0, .map #[] 0, .map #[] 0, .map #[] 0, .map #[] 0, .map #[] 0, .map #[] 0, .map #[] 0, .cells cs 94]) wt _ _ _ _
  refine ⟨cs, ?_, k55, k56, k57, k20, k3, k4, k48, ?_, ?_, ?_, by omega, by omega, by omega, by omega, by omega, by omega, by omega, by omega, by omega, by omega, lays_below _ w w (Below.refl _ _)⟩
  · exact lays_at _ w 17 (by simp)
  · exact lays_at _ w 1 (by simp)
  · exact lays_at _ w 4 (by simp)
  · exact lays_at _ w 5 (by simp)

/-- A reader that says nothing of an element: for the maps whose contents nobody asks for. -/
def R0 : Value → Option (DataW Unit × List MemPlace) := fun _ => some (.nil, [])
theorem empty_map {w : World} {b : Nat} (R : Value → Option (DataW Unit × List MemPlace)) (h : w.heap[b]? = some (.map #[] 0)) : w.ownsMap Try.prog 9 R b 0 (.map []) :=
  ⟨#[], 0, h, ⟨by simp, MapKept.stamped_empty 0, by simp⟩, Nat.le_refl _, rfl⟩

theorem NodeAt.s48 {w : World} {b mb : Nat} {wt out : Int} (h : NodeAt w b wt out mb) (x : Value) : NodeAt (w.setCell ⟨b, 48, none⟩ x) b wt out mb := by
  obtain ⟨cs, h, h1, h2, h3, r, h4⟩ := h
  refine ⟨_, block_setCell h 48 _, ?_, ?_, ?_, r, ?_⟩
  · rw [Array.getElem?_setIfInBounds_ne (by omega)]; exact h1
  · rw [Array.getElem?_setIfInBounds_ne (by omega)]; exact h2
  · rw [Array.getElem?_setIfInBounds_ne (by omega)]; exact h3
  · rw [Array.getElem?_setIfInBounds_ne (by omega)]; exact h4

/-- What a new node is, behind the call that makes it. -/
def Made (w w' : World) (wt : Int) (b mb : Nat) : Prop :=
  NodeAt w' b wt 0 mb ∧ PMap w' mb 0 (.map []) ∧ mb ≠ b ∧ w.heap.size ≤ b ∧ w.heap.size ≤ mb ∧ Below w.heap.size w w'

theorem fresh_cells {w wx : World} {wt : Int} {b m1 m4 m5 : Nat} (h : Fresh w wx wt b m1 m4 m5) : wx.cell? ⟨b, 3, none⟩ = some (.map (some m4)) ∧ wx.heap[m4]? = some (.map #[] 0) := by
  obtain ⟨cs, hb, k55, k56, k57, k20, k3, k4, k48, h1, h4, h5, _⟩ := h
  exact ⟨by simp [World.cell?, hb, k3], h4⟩

/-- Behind the first store into a map. -/
def Half (w wx : World) (wt : Int) (b m1 m5 : Nat) : Prop :=
  NodeAt wx b wt 0 m1 ∧ wx.cell? ⟨b, 4, none⟩ = some (.map (some m5)) ∧ wx.cell? ⟨b, 48, none⟩ = some (.bool false) ∧ wx.heap[m1]? = some (.map #[] 0) ∧ wx.heap[m5]? = some (.map #[] 0) ∧ w.heap.size ≤ b ∧ w.heap.size ≤ m1 ∧ w.heap.size ≤ m5 ∧ m1 ≠ b ∧ m5 ≠ b ∧ m1 ≠ m5 ∧ Below w.heap.size w wx

theorem fresh_half {w wx w1 : World} {wt : Int} {b m1 m4 m5 : Nat} (h : Fresh w wx wt b m1 m4 m5) (hg : wx.grownBy w1 (some m4)) : Half w w1 wt b m1 m5 := by
  obtain ⟨cs, hb, k55, k56, k57, k20, k3, k4, k48, h1, h4, h5, l1, l2, l3, l4, d1, d2, d3, d4, d5, d6, hbel⟩ := h
  have eb : w1.heap[b]? = wx.heap[b]? := hg.block b (lt_of_block hb) (by simpa using fun e => d2 e.symm)
  have e1 : w1.heap[m1]? = wx.heap[m1]? := hg.block m1 (lt_of_block h1) (by simpa using d4)
  have e5 : w1.heap[m5]? = wx.heap[m5]? := hg.block m5 (lt_of_block h5) (by simpa using fun e => d6 e.symm)
  have hb1 : w1.heap[b]? = some (.cells cs 94 (0, 0)) := eb.trans hb
  exact ⟨⟨cs, hb1, k55, k56, k57, false, k20⟩, by simp [World.cell?, hb1, k4], by simp [World.cell?, hb1, k48], e1.trans h1, e5.trans h5, l1, l2, l4, d1, d3, d5,
    hbel.grown hg hbel.size (fun j hj => by cases hj; exact l3)⟩

theorem half_made {w w1 w2 : World} {wt : Int} {b m1 m5 : Nat} (h : Half w w1 wt b m1 m5) (hg : w1.grownBy w2 (some m5)) : NodeAt w2 b wt 0 m1 ∧ w2.cell? ⟨b, 48, none⟩ = some (.bool false) ∧ Made w (w2.setCell ⟨b, 48, none⟩ (.bool true)) wt b m1 := by
  obtain ⟨hn, _, c48, h1, h5, l1, l2, l5, d1, d5, d15, hbel⟩ := h
  have eb : w2.heap[b]? = w1.heap[b]? := hg.block b hn.lt (by simpa using fun e => d5 e.symm)
  have e1 : w2.heap[m1]? = w1.heap[m1]? := hg.block m1 (lt_of_block h1) (by simpa using d15)
  have hn2 : NodeAt w2 b wt 0 m1 := hn.at eb
  have hb2 : Below w.heap.size w w2 := hbel.grown hg hbel.size (fun j hj => by cases hj; exact l5)
  refine ⟨hn2, (World.cell?_of_block (w := w1) eb).trans c48, hn2.s48 _, ?_, d1, l1, l2, hb2.setCell (p := ⟨b, 48, none⟩) l1 _⟩
  exact (empty_map (plainElem Try.prog 73) (e1.trans h1)).setCell (a := ⟨b, 48, none⟩) d1 _

set_option maxRecDepth 100000 in
set_option maxHeartbeats 4000000 in
theorem newNode_pos (id : ByteArray) (inc p s : Int) (w : World) (hid : id.size ≤ maxLen) (hs : 0 < s) :
    Calls Try.prog 35 #[.string id, .int .u64 inc, .agg #[.int .i64 p, .int .i64 s]] w fun e w' => ∃ b mb, e = .returned (.pointer (some ⟨b, 0, none⟩)) ∧ Made w w' (s) b mb := by
  have hmm := @run_makeMap Try.prog
  have hd : (s == 0) = false := by simp; omega
  obtain ⟨cs, hb, hsz, k55, k56, k57, k20, k3, k4, k48⟩ := build94 id inc p (s) (w.heap.size + 1) (w.heap.size + 1 + 1) (w.heap.size + 1 + 1 + 1) (w.heap.size + 1 + 1 + 1 + 1) (w.heap.size + 1 + 1 + 1 + 1 + 1) (w.heap.size + 1 + 1 + 1 + 1 + 1 + 1) (w.heap.size + 1 + 1 + 1 + 1 + 1 + 1 + 1) (w.heap.size + 1 + 1 + 1 + 1 + 1 + 1 + 1 + 1) (w.heap.size + 1 + 1 + 1 + 1 + 1 + 1 + 1 + 1 + 1) (w.heap.size + 1 + 1 + 1 + 1 + 1 + 1 + 1 + 1 + 1 + 1) (w.heap.size + 1 + 1 + 1 + 1 + 1 + 1 + 1 + 1 + 1 + 1 + 1) (w.heap.size + 1 + 1 + 1 + 1 + 1 + 1 + 1 + 1 + 1 + 1 + 1 + 1) (w.heap.size + 1 + 1 + 1 + 1 + 1 + 1 + 1 + 1 + 1 + 1 + 1 + 1 + 1) (w.heap.size + 1 + 1 + 1 + 1 + 1 + 1 + 1 + 1 + 1 + 1 + 1 + 1 + 1 + 1) (w.heap.size + 1 + 1 + 1 + 1 + 1 + 1 + 1 + 1 + 1 + 1 + 1 + 1 + 1 + 1 + 1) (w.heap.size + 1 + 1 + 1 + 1 + 1 + 1 + 1 + 1 + 1 + 1 + 1 + 1 + 1 + 1 + 1 + 1)
  have HB : Hid (∀ w : World, _ = _) := hb
  have HK : Hid (_ ∧ _ ∧ _ ∧ _ ∧ _ ∧ _ ∧ _) := ⟨k55, k56, k57, k20, k3, k4, k48⟩
  clear hb hsz k55 k56 k57 k20 k3 k4 k48
  go_enter Try.func35, Try.ntmps35
  go_upto_region 6 with fail
  go_cut [8] from 9 to 43 (fun s8 wx => ∃ b m1 m4 m5, s8 = .pointer (some ⟨b, 0, none⟩) ∧ Fresh w wx (s) b m1 m4 m5)
  case first =>
    go_wp2_with (refine wpList_build _ rfl 94 _ rfl #[(0, .string id), (42, .int .u64 inc), (43, .int .u64 1), (38, .int .i64 p), (39, .int .i64 s), (41, .map (some (w.heap.size + 1))), (1, .map (some (w.heap.size + 1 + 1))), (2, .map (some (w.heap.size + 1 + 1 + 1))), (3, .map (some (w.heap.size + 1 + 1 + 1 + 1))), (4, .map (some (w.heap.size + 1 + 1 + 1 + 1 + 1))), (5, .map (some (w.heap.size + 1 + 1 + 1 + 1 + 1 + 1))), (6, .map (some (w.heap.size + 1 + 1 + 1 + 1 + 1 + 1 + 1))), (9, .map (some (w.heap.size + 1 + 1 + 1 + 1 + 1 + 1 + 1 + 1))), (10, .map (some (w.heap.size + 1 + 1 + 1 + 1 + 1 + 1 + 1 + 1 + 1))), (11, .map (some (w.heap.size + 1 + 1 + 1 + 1 + 1 + 1 + 1 + 1 + 1 + 1))), (7, .map (some (w.heap.size + 1 + 1 + 1 + 1 + 1 + 1 + 1 + 1 + 1 + 1 + 1))), (33, .map (some (w.heap.size + 1 + 1 + 1 + 1 + 1 + 1 + 1 + 1 + 1 + 1 + 1 + 1))), (34, .map (some (w.heap.size + 1 + 1 + 1 + 1 + 1 + 1 + 1 + 1 + 1 + 1 + 1 + 1 + 1))), (35, .map (some (w.heap.size + 1 + 1 + 1 + 1 + 1 + 1 + 1 + 1 + 1 + 1 + 1 + 1 + 1 + 1))), (36, .map (some (w.heap.size + 1 + 1 + 1 + 1 + 1 + 1 + 1 + 1 + 1 + 1 + 1 + 1 + 1 + 1 + 1))), (47, .bool true), (48, .map (some (w.heap.size + 1 + 1 + 1 + 1 + 1 + 1 + 1 + 1 + 1 + 1 + 1 + 1 + 1 + 1 + 1 + 1)))] (by kernel_rfl) (.agg cs) (HB.out _) ?_)
    go_meet
    case rel => exact ⟨_, _, _, _, rfl, fresh_mk w _ cs _ HK.out.1 HK.out.2.1 HK.out.2.2.1 HK.out.2.2.2.1 HK.out.2.2.2.2.1 HK.out.2.2.2.2.2.1 HK.out.2.2.2.2.2.2⟩
  case rest =>
    obtain ⟨b, m1, m4, m5, rfl, hf⟩ := hcut
    clear hmm HB HK
    obtain ⟨c3, hm4⟩ := fresh_cells hf
    have F4 : Hid (wc.heap[m4]? = some (.map #[] 0)) := hm4
    clear hm4
    go_upto_region 8 with (at_mapUpdate; refine wpList_mapUpdate_own _ rfl _ _ _ 86 rfl 9 92 law9 Try.underlying86 R0 m4 0 (.map []) rfl (empty_map R0 F4.out) (by unfold maxLen; omega) _ _ _ rfl rfl (keyOf_string_mk Try.underlying9 hid) .nil [] rfl ?_; intro wu hm1 hg1)
    have hh := fresh_half hf hg1
    have hh2 := hh
    clear hf hg1 hm1 c3 F4
    obtain ⟨hn, c4, c48, _, hm5, _⟩ := hh
    have G5 : Hid (wu.heap[m5]? = some (.map #[] 0)) := hm5
    clear hm5
    go_upto_region 9 with (at_mapUpdate; refine wpList_mapUpdate_own _ rfl _ _ _ 87 rfl 9 4 law9 Try.underlying87 R0 m5 0 (.map []) rfl (empty_map R0 G5.out) (by unfold maxLen; omega) _ _ _ rfl rfl (keyOf_string_mk Try.underlying9 hid) .nil [] rfl ?_; intro wv2 hm2 hg2)
    obtain ⟨hn2, c48', hmade⟩ := half_made hh2 hg2
    have f48 := hn2.fr 48
    clear hg2 hm2 c4 c48 G5 hn
    go_wp2
    go_ret
    exact ⟨_, _, rfl, hmade⟩

set_option maxRecDepth 100000 in
set_option maxHeartbeats 4000000 in
theorem newNode_three (id : ByteArray) (inc p : Int) (w : World) (hid : id.size ≤ maxLen) (hp0 : 0 ≤ p) (hp1 : p ≤ 3074457345618258602) :
    Calls Try.prog 35 #[.string id, .int .u64 inc, .agg #[.int .i64 p, .int .i64 0]] w fun e w' => ∃ b mb, e = .returned (.pointer (some ⟨b, 0, none⟩)) ∧ Made w w' (3 * p) b mb := by
  have hmm := @run_makeMap Try.prog
  obtain ⟨cs, hb, hsz, k55, k56, k57, k20, k3, k4, k48⟩ := build94 id inc p (3 * p) (w.heap.size + 1) (w.heap.size + 1 + 1) (w.heap.size + 1 + 1 + 1) (w.heap.size + 1 + 1 + 1 + 1) (w.heap.size + 1 + 1 + 1 + 1 + 1) (w.heap.size + 1 + 1 + 1 + 1 + 1 + 1) (w.heap.size + 1 + 1 + 1 + 1 + 1 + 1 + 1) (w.heap.size + 1 + 1 + 1 + 1 + 1 + 1 + 1 + 1) (w.heap.size + 1 + 1 + 1 + 1 + 1 + 1 + 1 + 1 + 1) (w.heap.size + 1 + 1 + 1 + 1 + 1 + 1 + 1 + 1 + 1 + 1) (w.heap.size + 1 + 1 + 1 + 1 + 1 + 1 + 1 + 1 + 1 + 1 + 1) (w.heap.size + 1 + 1 + 1 + 1 + 1 + 1 + 1 + 1 + 1 + 1 + 1 + 1) (w.heap.size + 1 + 1 + 1 + 1 + 1 + 1 + 1 + 1 + 1 + 1 + 1 + 1 + 1) (w.heap.size + 1 + 1 + 1 + 1 + 1 + 1 + 1 + 1 + 1 + 1 + 1 + 1 + 1 + 1) (w.heap.size + 1 + 1 + 1 + 1 + 1 + 1 + 1 + 1 + 1 + 1 + 1 + 1 + 1 + 1 + 1) (w.heap.size + 1 + 1 + 1 + 1 + 1 + 1 + 1 + 1 + 1 + 1 + 1 + 1 + 1 + 1 + 1 + 1)
  have HB : Hid (∀ w : World, _ = _) := hb
  have HK : Hid (_ ∧ _ ∧ _ ∧ _ ∧ _ ∧ _ ∧ _) := ⟨k55, k56, k57, k20, k3, k4, k48⟩
  clear hb hsz k55 k56 k57 k20 k3 k4 k48
  go_enter Try.func35, Try.ntmps35
  go_upto_region 6 with fail
  go_cut [8] from 9 to 43 (fun s8 wx => ∃ b m1 m4 m5, s8 = .pointer (some ⟨b, 0, none⟩) ∧ Fresh w wx (3 * p) b m1 m4 m5)
  case first =>
    go_wp2_with (refine wpList_build _ rfl 94 _ rfl #[(0, .string id), (42, .int .u64 inc), (43, .int .u64 1), (38, .int .i64 p), (39, .int .i64 (3 * p)), (41, .map (some (w.heap.size + 1))), (1, .map (some (w.heap.size + 1 + 1))), (2, .map (some (w.heap.size + 1 + 1 + 1))), (3, .map (some (w.heap.size + 1 + 1 + 1 + 1))), (4, .map (some (w.heap.size + 1 + 1 + 1 + 1 + 1))), (5, .map (some (w.heap.size + 1 + 1 + 1 + 1 + 1 + 1))), (6, .map (some (w.heap.size + 1 + 1 + 1 + 1 + 1 + 1 + 1))), (9, .map (some (w.heap.size + 1 + 1 + 1 + 1 + 1 + 1 + 1 + 1))), (10, .map (some (w.heap.size + 1 + 1 + 1 + 1 + 1 + 1 + 1 + 1 + 1))), (11, .map (some (w.heap.size + 1 + 1 + 1 + 1 + 1 + 1 + 1 + 1 + 1 + 1))), (7, .map (some (w.heap.size + 1 + 1 + 1 + 1 + 1 + 1 + 1 + 1 + 1 + 1 + 1))), (33, .map (some (w.heap.size + 1 + 1 + 1 + 1 + 1 + 1 + 1 + 1 + 1 + 1 + 1 + 1))), (34, .map (some (w.heap.size + 1 + 1 + 1 + 1 + 1 + 1 + 1 + 1 + 1 + 1 + 1 + 1 + 1))), (35, .map (some (w.heap.size + 1 + 1 + 1 + 1 + 1 + 1 + 1 + 1 + 1 + 1 + 1 + 1 + 1 + 1))), (36, .map (some (w.heap.size + 1 + 1 + 1 + 1 + 1 + 1 + 1 + 1 + 1 + 1 + 1 + 1 + 1 + 1 + 1))), (47, .bool true), (48, .map (some (w.heap.size + 1 + 1 + 1 + 1 + 1 + 1 + 1 + 1 + 1 + 1 + 1 + 1 + 1 + 1 + 1 + 1)))] (by kernel_rfl) (.agg cs) (HB.out _) ?_)
    go_meet
    case rel => exact ⟨_, _, _, _, rfl, fresh_mk w _ cs _ HK.out.1 HK.out.2.1 HK.out.2.2.1 HK.out.2.2.2.1 HK.out.2.2.2.2.1 HK.out.2.2.2.2.2.1 HK.out.2.2.2.2.2.2⟩
  case rest =>
    obtain ⟨b, m1, m4, m5, rfl, hf⟩ := hcut
    clear hmm HB HK
    obtain ⟨c3, hm4⟩ := fresh_cells hf
    have F4 : Hid (wc.heap[m4]? = some (.map #[] 0)) := hm4
    clear hm4
    go_upto_region 8 with (at_mapUpdate; refine wpList_mapUpdate_own _ rfl _ _ _ 86 rfl 9 92 law9 Try.underlying86 R0 m4 0 (.map []) rfl (empty_map R0 F4.out) (by unfold maxLen; omega) _ _ _ rfl rfl (keyOf_string_mk Try.underlying9 hid) .nil [] rfl ?_; intro wu hm1 hg1)
    have hh := fresh_half hf hg1
    have hh2 := hh
    clear hf hg1 hm1 c3 F4
    obtain ⟨hn, c4, c48, _, hm5, _⟩ := hh
    have G5 : Hid (wu.heap[m5]? = some (.map #[] 0)) := hm5
    clear hm5
    go_upto_region 9 with (at_mapUpdate; refine wpList_mapUpdate_own _ rfl _ _ _ 87 rfl 9 4 law9 Try.underlying87 R0 m5 0 (.map []) rfl (empty_map R0 G5.out) (by unfold maxLen; omega) _ _ _ rfl rfl (keyOf_string_mk Try.underlying9 hid) .nil [] rfl ?_; intro wv2 hm2 hg2)
    obtain ⟨hn2, c48', hmade⟩ := half_made hh2 hg2
    have f48 := hn2.fr 48
    clear hg2 hm2 c4 c48 G5 hn
    go_wp2
    go_ret
    exact ⟨_, _, rfl, hmade⟩

set_option maxRecDepth 100000 in
set_option maxHeartbeats 4000000 in
theorem newNode_max (id : ByteArray) (inc p : Int) (w : World) (hid : id.size ≤ maxLen) (hp1 : 3074457345618258602 < p) :
    Calls Try.prog 35 #[.string id, .int .u64 inc, .agg #[.int .i64 p, .int .i64 0]] w fun e w' => ∃ b mb, e = .returned (.pointer (some ⟨b, 0, none⟩)) ∧ Made w w' (9223372036854775807) b mb := by
  have hmm := @run_makeMap Try.prog
  obtain ⟨cs, hb, hsz, k55, k56, k57, k20, k3, k4, k48⟩ := build94 id inc p (9223372036854775807) (w.heap.size + 1) (w.heap.size + 1 + 1) (w.heap.size + 1 + 1 + 1) (w.heap.size + 1 + 1 + 1 + 1) (w.heap.size + 1 + 1 + 1 + 1 + 1) (w.heap.size + 1 + 1 + 1 + 1 + 1 + 1) (w.heap.size + 1 + 1 + 1 + 1 + 1 + 1 + 1) (w.heap.size + 1 + 1 + 1 + 1 + 1 + 1 + 1 + 1) (w.heap.size + 1 + 1 + 1 + 1 + 1 + 1 + 1 + 1 + 1) (w.heap.size + 1 + 1 + 1 + 1 + 1 + 1 + 1 + 1 + 1 + 1) (w.heap.size + 1 + 1 + 1 + 1 + 1 + 1 + 1 + 1 + 1 + 1 + 1) (w.heap.size + 1 + 1 + 1 + 1 + 1 + 1 + 1 + 1 + 1 + 1 + 1 + 1) (w.heap.size + 1 + 1 + 1 + 1 + 1 + 1 + 1 + 1 + 1 + 1 + 1 + 1 + 1) (w.heap.size + 1 + 1 + 1 + 1 + 1 + 1 + 1 + 1 + 1 + 1 + 1 + 1 + 1 + 1) (w.heap.size + 1 + 1 + 1 + 1 + 1 + 1 + 1 + 1 + 1 + 1 + 1 + 1 + 1 + 1 + 1) (w.heap.size + 1 + 1 + 1 + 1 + 1 + 1 + 1 + 1 + 1 + 1 + 1 + 1 + 1 + 1 + 1 + 1)
  have HB : Hid (∀ w : World, _ = _) := hb
  have HK : Hid (_ ∧ _ ∧ _ ∧ _ ∧ _ ∧ _ ∧ _) := ⟨k55, k56, k57, k20, k3, k4, k48⟩
  clear hb hsz k55 k56 k57 k20 k3 k4 k48
  go_enter Try.func35, Try.ntmps35
  go_upto_region 6 with fail
  go_cut [8] from 9 to 43 (fun s8 wx => ∃ b m1 m4 m5, s8 = .pointer (some ⟨b, 0, none⟩) ∧ Fresh w wx (9223372036854775807) b m1 m4 m5)
  case first =>
    go_wp2_with (refine wpList_build _ rfl 94 _ rfl #[(0, .string id), (42, .int .u64 inc), (43, .int .u64 1), (38, .int .i64 p), (39, .int .i64 9223372036854775807), (41, .map (some (w.heap.size + 1))), (1, .map (some (w.heap.size + 1 + 1))), (2, .map (some (w.heap.size + 1 + 1 + 1))), (3, .map (some (w.heap.size + 1 + 1 + 1 + 1))), (4, .map (some (w.heap.size + 1 + 1 + 1 + 1 + 1))), (5, .map (some (w.heap.size + 1 + 1 + 1 + 1 + 1 + 1))), (6, .map (some (w.heap.size + 1 + 1 + 1 + 1 + 1 + 1 + 1))), (9, .map (some (w.heap.size + 1 + 1 + 1 + 1 + 1 + 1 + 1 + 1))), (10, .map (some (w.heap.size + 1 + 1 + 1 + 1 + 1 + 1 + 1 + 1 + 1))), (11, .map (some (w.heap.size + 1 + 1 + 1 + 1 + 1 + 1 + 1 + 1 + 1 + 1))), (7, .map (some (w.heap.size + 1 + 1 + 1 + 1 + 1 + 1 + 1 + 1 + 1 + 1 + 1))), (33, .map (some (w.heap.size + 1 + 1 + 1 + 1 + 1 + 1 + 1 + 1 + 1 + 1 + 1 + 1))), (34, .map (some (w.heap.size + 1 + 1 + 1 + 1 + 1 + 1 + 1 + 1 + 1 + 1 + 1 + 1 + 1))), (35, .map (some (w.heap.size + 1 + 1 + 1 + 1 + 1 + 1 + 1 + 1 + 1 + 1 + 1 + 1 + 1 + 1))), (36, .map (some (w.heap.size + 1 + 1 + 1 + 1 + 1 + 1 + 1 + 1 + 1 + 1 + 1 + 1 + 1 + 1 + 1))), (47, .bool true), (48, .map (some (w.heap.size + 1 + 1 + 1 + 1 + 1 + 1 + 1 + 1 + 1 + 1 + 1 + 1 + 1 + 1 + 1 + 1)))] (by kernel_rfl) (.agg cs) (HB.out _) ?_)
    go_meet
    case rel => exact ⟨_, _, _, _, rfl, fresh_mk w _ cs _ HK.out.1 HK.out.2.1 HK.out.2.2.1 HK.out.2.2.2.1 HK.out.2.2.2.2.1 HK.out.2.2.2.2.2.1 HK.out.2.2.2.2.2.2⟩
  case rest =>
    obtain ⟨b, m1, m4, m5, rfl, hf⟩ := hcut
    clear hmm HB HK
    obtain ⟨c3, hm4⟩ := fresh_cells hf
    have F4 : Hid (wc.heap[m4]? = some (.map #[] 0)) := hm4
    clear hm4
    go_upto_region 8 with (at_mapUpdate; refine wpList_mapUpdate_own _ rfl _ _ _ 86 rfl 9 92 law9 Try.underlying86 R0 m4 0 (.map []) rfl (empty_map R0 F4.out) (by unfold maxLen; omega) _ _ _ rfl rfl (keyOf_string_mk Try.underlying9 hid) .nil [] rfl ?_; intro wu hm1 hg1)
    have hh := fresh_half hf hg1
    have hh2 := hh
    clear hf hg1 hm1 c3 F4
    obtain ⟨hn, c4, c48, _, hm5, _⟩ := hh
    have G5 : Hid (wu.heap[m5]? = some (.map #[] 0)) := hm5
    clear hm5
    go_upto_region 9 with (at_mapUpdate; refine wpList_mapUpdate_own _ rfl _ _ _ 87 rfl 9 4 law9 Try.underlying87 R0 m5 0 (.map []) rfl (empty_map R0 G5.out) (by unfold maxLen; omega) _ _ _ rfl rfl (keyOf_string_mk Try.underlying9 hid) .nil [] rfl ?_; intro wv2 hm2 hg2)
    obtain ⟨hn2, c48', hmade⟩ := half_made hh2 hg2
    have f48 := hn2.fr 48
    clear hg2 hm2 c4 c48 G5 hn
    go_wp2
    go_ret
    exact ⟨_, _, rfl, hmade⟩
end Go.Proofs.Qxb6003726a
