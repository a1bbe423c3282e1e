import Derived.Test.Qxb6003726aWaitLeaves
namespace Go.Proofs.Qxb6003726a
open Go.RowKit Go.Maps Go.WideMaps Go.WideElems

/-- A variable of type [3]int64. -/
def Arr (w : World) (g : Nat) (F : Nat → Int) : Prop := w.heap[g]? = some (.cells #[.int .i64 (F 0), .int .i64 (F 1), .int .i64 (F 2)] 64 (0, 0))

theorem Arr.lt {w : World} {g : Nat} {F : Nat → Int} (h : Arr w g F) : g < w.heap.size := lt_of_block h
theorem Arr.at {w : World} {g : Nat} {F : Nat → Int} (h : Arr w g F) {k : Nat} (hk : k < 3) : w.cell? ⟨g, k, none⟩ = some (.int .i64 (F k)) := by
  unfold Arr at h
  obtain rfl | rfl | rfl : k = 0 ∨ k = 1 ∨ k = 2 := by omega
  all_goals simp [World.cell?, h]
theorem Arr.fr {w : World} {g : Nat} {F : Nat → Int} (h : Arr w g F) (k : Nat) : w.frozen? ⟨g, k, none⟩ = false := by
  unfold Arr at h
  simp [World.frozen?, h]
theorem Arr.keep {w w' : World} {g : Nat} {F : Nat → Int} (h : Arr w g F) (e : w'.heap[g]? = w.heap[g]?) : Arr w' g F := e.trans h
theorem Arr.set {w : World} {g : Nat} {F : Nat → Int} (h : Arr w g F) {k : Nat} (hk : k < 3) (v : Int) : Arr (w.setCell ⟨g, k, none⟩ (.int .i64 v)) g (fun i => if i = k then v else F i) := by
  unfold Arr at h ⊢
  rw [block_setCell h]
  obtain rfl | rfl | rfl : k = 0 ∨ k = 1 ∨ k = 2 := by omega
  all_goals simp

/-- WHAT STANDS WHILE THE LAW RUNS: the node; the two arrays, at G and behind it; nothing below B has turned since w0. -/
def Runs (w0 : World) (B G b mb n : Nat) (wt out : Int) (cs : Int → Int) (F T : Nat → Int) (w : World) : Prop :=
  Stand w b mb n wt out cs ∧ Arr w G F ∧ Arr w (G + 1) T ∧ Below B w0 w ∧ B ≤ b ∧ B ≤ mb ∧ B ≤ G ∧ b < G ∧ mb < G

theorem Stand.keep {w w' : World} {b mb n : Nat} {wt out : Int} {cs : Int → Int} (h : Stand w b mb n wt out cs) (g : Nat) (hb : b ≠ g) (hm : mb ≠ g) (e : w.grownBy w' (some g)) : Stand w' b mb n wt out cs := by
  obtain ⟨hN, hne, w0, w1, o0, o1, ⟨D, hp, hD⟩, hc⟩ := h
  exact ⟨hN.at (e.block b hN.lt (by simpa using hb)), hne, w0, w1, o0, o1, ⟨D, hp.kept e (by simpa using hm), hD⟩, hc⟩

theorem Stand.setCell {w : World} {b mb n : Nat} {wt out : Int} {cs : Int → Int} (h : Stand w b mb n wt out cs) {g k : Nat} (hb : b ≠ g) (hm : mb ≠ g) (v : Value) : Stand (w.setCell ⟨g, k, none⟩ v) b mb n wt out cs := by
  obtain ⟨hN, hne, w0, w1, o0, o1, ⟨D, hp, hD⟩, hc⟩ := h
  exact ⟨hN.at (Below.heap_setCell _ _ _ _ hb), hne, w0, w1, o0, o1, ⟨D, hp.setCell (a := ⟨g, k, none⟩) hm _, hD⟩, hc⟩

theorem Stand.alloc {w : World} {b mb n : Nat} {wt out : Int} {cs : Int → Int} (h : Stand w b mb n wt out cs) (o : Obj) : Stand (w.alloc o) b mb n wt out cs := by
  obtain ⟨hN, hne, w0, w1, o0, o1, ⟨D, hp, hD⟩, hc⟩ := h
  exact ⟨hN.at (Below.heap_alloc _ _ _ hN.lt), hne, w0, w1, o0, o1, ⟨D, hp.alloc o, hD⟩, hc⟩

theorem Stand.drewN {w : World} {b mb n : Nat} {wt out : Int} {cs : Int → Int} (h : Stand w b mb n wt out cs) (q : Nat) : Stand (w.drewN q) b mb n wt out cs := h

theorem Stand.lt {w : World} {b mb n : Nat} {wt out : Int} {cs : Int → Int} (h : Stand w b mb n wt out cs) : b < w.heap.size ∧ mb < w.heap.size := by
  obtain ⟨hN, hne, w0, w1, o0, o1, ⟨D, hp, hD⟩, hc⟩ := h
  exact ⟨hN.lt, hp.lt⟩

theorem Runs.drewN {w0 : World} {B G b mb n : Nat} {wt out : Int} {cs : Int → Int} {F T : Nat → Int} {w : World} (h : Runs w0 B G b mb n wt out cs F T w) (q : Nat) : Runs w0 B G b mb n wt out cs F T (w.drewN q) :=
  ⟨h.1.drewN q, h.2.1, h.2.2.1, below_drewN h.2.2.2.1 q, h.2.2.2.2⟩

/-- The two stores of a round. -/
theorem Runs.store {w0 : World} {B G b mb n : Nat} {wt out : Int} {cs : Int → Int} {F T : Nat → Int} {w : World} (h : Runs w0 B G b mb n wt out cs F T w) {k : Nat} (hk : k < 3) (f t : Int) :
    Runs w0 B G b mb n wt out cs (fun i => if i = k then f else F i) (fun i => if i = k then t else T i) ((w.setCell ⟨G, k, none⟩ (.int .i64 f)).setCell ⟨G + 1, k, none⟩ (.int .i64 t)) := by
  obtain ⟨hS, hF, hT, hB, l1, l2, l3, l4, l5⟩ := h
  refine ⟨(hS.setCell (by omega) (by omega) _).setCell (by omega) (by omega) _, ?_, ?_, ?_, l1, l2, l3, l4, l5⟩
  · exact (hF.set hk f).keep (Below.heap_setCell _ _ _ _ (by show G ≠ G + 1; omega))
  · exact (hT.keep (Below.heap_setCell _ _ _ _ (by show G + 1 ≠ G; omega))).set hk t
  · exact (hB.setCell (p := ⟨G, k, none⟩) (by show B ≤ G; omega) _).setCell (p := ⟨G + 1, k, none⟩) (by show B ≤ G + 1; omega) _

/-- Behind a hearing. -/
theorem Runs.hears {w0 : World} {B G b mb n : Nat} {wt out q : Int} {cs : Int → Int} {F T : Nat → Int} {w w' : World} (h : Runs w0 B G b mb n wt out cs F T w) (hh : Hears w w' B b mb n wt out cs q) :
    ∃ out' cs', Runs w0 B G b mb (n + 1) wt out' cs' F T w' ∧ Up wt out out' cs cs' q := by
  obtain ⟨hS, hF, hT, hB, l1, l2, l3, l4, l5⟩ := h
  obtain ⟨out', cs', hS', hB', hA, hU⟩ := hh
  exact ⟨out', cs', ⟨hS', hF.keep (hA _ hF.lt (by omega) (by omega)), hT.keep (hA _ hT.lt (by omega) (by omega)), hB.trans hB', l1, l2, l3, l4, l5⟩, hU⟩

/-- Ahead of the first loop. -/
theorem Born.runs {w0 we : World} {wt : Int} {b mb : Nat} (h : Born w0 we wt b mb) : Runs w0 w0.heap.size we.heap.size b mb 0 wt 0 (fun _ => 0) (fun _ => 0) (fun _ => 0)
    ((we.alloc (.cells #[.int .i64 0, .int .i64 0, .int .i64 0] 64)).alloc (.cells #[.int .i64 0, .int .i64 0, .int .i64 0] 64)) := by
  obtain ⟨hS, l1, l2, hB⟩ := h
  have hl := hS.lt
  refine ⟨(hS.alloc _).alloc _, ?_, ?_, (hB.alloc hB.size _).alloc ?_ _, l1, l2, hB.size, hl.1, hl.2⟩
  · exact (Below.heap_alloc _ _ _ (by simp)).trans (heap_alloc_new we _)
  · have := heap_alloc_new (we.alloc (.cells #[.int .i64 0, .int .i64 0, .int .i64 0] 64)) (.cells #[.int .i64 0, .int .i64 0, .int .i64 0] 64)
    simpa [Arr] using this
  · have := hB.size; simp; omega

theorem name_at (k : Int) (w : World) (h0 : 0 ≤ k) (h1 : k < 3) : Calls Try.prog 30 #[.int .u8 k] w fun e w' => e = .returned (.string (nm k)) ∧ w' = w := by
  have h := name_any k w h0
  rwa [Int.emod_eq_of_lt h0 h1] at h

theorem wv_new {r : Bool} {wt : Int} (w0 : 0 ≤ wt) (w1 : wt ≤ 9223372036854775807) : wv r wt 0 0 = wt := by
  unfold wv both; cases r <;> simp <;> omega

theorem first_rep {w0 : World} {B G b mb n : Nat} {wt : Int} {F T : Nat → Int} {w : World} (h : Runs w0 B G b mb n wt 0 (fun _ => 0) F T w) (j : Int) (j0 : 0 ≤ j) (j1 : j < 3) :
    Calls Try.prog 29 #[.pointer (some ⟨b, 0, none⟩), .string (nm j), .bool true] w fun e w' => e = .returned (.int .i64 wt) ∧ w' = w := by
  have hc := zzWait_rep b mb n wt 0 _ j w h.1 j0 j1
  rwa [wv_new h.1.2.2.1 h.1.2.2.2.1] at hc
theorem first_all {w0 : World} {B G b mb n : Nat} {wt : Int} {F T : Nat → Int} {w : World} (h : Runs w0 B G b mb n wt 0 (fun _ => 0) F T w) (j : Int) (j0 : 0 ≤ j) (j1 : j < 3) :
    Calls Try.prog 29 #[.pointer (some ⟨b, 0, none⟩), .string (nm j), .bool false] w fun e w' => e = .returned (.int .i64 wt) ∧ ∃ q, w' = w.drewN q := by
  have hc := zzWait_all b mb n wt 0 _ j w h.1 j0 j1
  rwa [wv_new h.1.2.2.1 h.1.2.2.2.1] at hc

/-- THE FIRST LOOP: the first k waits are the node's own. -/
def First (w0 : World) (B G b mb : Nat) (wt : Int) (k : Nat) (w : World) : Prop :=
  ∃ F T, Runs w0 B G b mb 0 wt 0 (fun _ => 0) F T w ∧ ∀ i, i < k → F i = wt ∧ T i = wt

/-- THE OUTER LOOP: the arrays hold the waits of now. -/
def Outer (w0 : World) (B G b mb : Nat) (wt : Int) (k : Nat) (w : World) : Prop :=
  ∃ n out cs F T, n ≤ k ∧ Runs w0 B G b mb n wt out cs F T w ∧ ∀ i, i < 3 → F i = wv false wt out (cs i) ∧ T i = wv true wt out (cs i)

theorem First.outer {w0 : World} {B G b mb : Nat} {wt : Int} {w : World} (h : First w0 B G b mb wt 3 w) : Outer w0 B G b mb wt 0 w := by
  obtain ⟨F, T, hR, hF⟩ := h
  exact ⟨0, 0, _, F, T, Nat.le_refl _, hR, fun i hi => by rw [wv_new hR.1.2.2.1 hR.1.2.2.2.1, wv_new hR.1.2.2.1 hR.1.2.2.2.1]; exact hF i hi⟩

theorem First.next {w0 : World} {B G b mb : Nat} {wt : Int} {k : Nat} {w : World} {F T : Nat → Int} (h : Runs w0 B G b mb 0 wt 0 (fun _ => 0) F T w) (hF : ∀ i, i < k → F i = wt ∧ T i = wt) (hk : k < 3) :
    First w0 B G b mb wt (k + 1) ((w.setCell ⟨G, k, none⟩ (.int .i64 wt)).setCell ⟨G + 1, k, none⟩ (.int .i64 wt)) := by
  refine ⟨_, _, h.store hk wt wt, fun i hi => ?_⟩
  by_cases e : i = k
  · simp [e]
  · simpa [e] using hF i (by omega)

/-- THE INNER LOOP: the first j places hold the waits of now, the rest those ahead of the hearing. -/
def Inner (w0 : World) (B G b mb n : Nat) (wt out out' : Int) (cs cs' : Int → Int) (j : Nat) (w : World) : Prop :=
  ∃ F T, Runs w0 B G b mb n wt out' cs' F T w ∧ (∀ i, i < j → F i = wv false wt out' (cs' (i : Int)) ∧ T i = wv true wt out' (cs' (i : Int))) ∧
    ∀ i, j ≤ i → i < 3 → F i = wv false wt out (cs (i : Int)) ∧ T i = wv true wt out (cs (i : Int))

theorem Inner.done {w0 : World} {B G b mb n k : Nat} {wt out out' : Int} {cs cs' : Int → Int} {w : World} (h : Inner w0 B G b mb n wt out out' cs cs' 3 w) (hn : n ≤ k) : Outer w0 B G b mb wt k w := by
  obtain ⟨F, T, hR, h1, _⟩ := h
  exact ⟨n, out', cs', F, T, hn, hR, fun i hi => h1 i hi⟩

theorem Inner.next {w0 : World} {B G b mb n : Nat} {wt out out' : Int} {cs cs' : Int → Int} {j : Nat} {w : World} {F T : Nat → Int} (h : Runs w0 B G b mb n wt out' cs' F T w)
    (h1 : ∀ i, i < j → F i = wv false wt out' (cs' (i : Int)) ∧ T i = wv true wt out' (cs' (i : Int))) (h2 : ∀ i, j ≤ i → i < 3 → F i = wv false wt out (cs (i : Int)) ∧ T i = wv true wt out (cs (i : Int))) (hj : j < 3)
    {f t : Int} (ef : wv false wt out' (cs' (j : Int)) = f) (et : wv true wt out' (cs' (j : Int)) = t) :
    Inner w0 B G b mb n wt out out' cs cs' (j + 1) ((w.setCell ⟨G, j, none⟩ (.int .i64 f)).setCell ⟨G + 1, j, none⟩ (.int .i64 t)) := by
  refine ⟨_, _, h.store hj f t, fun i hi => ?_, fun i hi hi3 => ?_⟩
  · by_cases e : i = j
    · subst e; simp [ef, et]
    · simpa [e] using h1 i (by omega)
  · have e : i ≠ j := by omega
    simpa [e] using h2 i (by omega) hi3

theorem inner_facts {w0 : World} {B G b mb n : Nat} {wt out out' q : Int} {cs cs' : Int → Int} {j : Nat} {w : World} {F T : Nat → Int} (h : Runs w0 B G b mb n wt out' cs' F T w) (hU : Up wt out out' cs cs' q)
    (h2 : ∀ i, j ≤ i → i < 3 → F i = wv false wt out (cs (i : Int)) ∧ T i = wv true wt out (cs (i : Int))) (hj : j < 3) {f t f0 t0 : Int} (ef : wv false wt out' (cs' (j : Int)) = f) (et : wv true wt out' (cs' (j : Int)) = t) (ef0 : F j = f0) (et0 : T j = t0) :
    f0 ≤ f ∧ t0 ≤ t ∧ t ≤ f ∧ wt ≤ t ∧ (q ≤ wt / 2 → f = f0 ∧ t = t0) := by
  obtain ⟨e1, e2⟩ := h2 j (Nat.le_refl _) hj
  have u1 := hU.1 false (j : Int) (by omega) (by omega)
  have u2 := hU.1 true (j : Int) (by omega) (by omega)
  have u3 := wv_tf (wt := wt) (c := cs' (j : Int)) h.1.2.2.2.2.1 h.1.2.2.2.1
  have u4 := wv_ge (r := true) (wt := wt) (c := cs' (j : Int)) h.1.2.2.2.2.1 h.1.2.2.2.1
  refine ⟨by omega, by omega, by omega, by omega, fun hq => ?_⟩
  have v1 := hU.2 hq false (j : Int) (by omega) (by omega)
  have v2 := hU.2 hq true (j : Int) (by omega) (by omega)
  omega
end Go.Proofs.Qxb6003726a
