import Derived.Test.Qxb6003726aWaitFor
namespace Go.Proofs.Qxb6003726a
open Go.RowKit Go.Maps Go.WideMaps Go.WideElems

/-- WHAT heardAfter MAY DO: nothing; raise 'outlived'; give the neighbour a patience longer than the wait so far. -/
def Step (wt out c : Int) (D : DataW Unit) (s : ByteArray) (q : Int) (out' : Int) (D' : DataW Unit) : Prop :=
  out ≤ out' ∧ out' ≤ 9223372036854775807 ∧
  ((out' = out ∧ D' = D) ∨ (wt / 2 < q ∧ D' = D) ∨ (wt / 2 < q ∧ out' = out ∧ ∃ l : Int, D' = D.put (.string s.data.toList) (.lit (.int .i64 l)) ∧ wv false wt out c < l ∧ l ≤ 9223372036854775807))

/-- All blocks but two stand. -/
def Apart (b mb : Nat) (w w' : World) : Prop := ∀ j, j < w.heap.size → j ≠ b → j ≠ mb → w'.heap[j]? = w.heap[j]?

def Heard (w w' : World) (B b mb n : Nat) (wt out c : Int) (D : DataW Unit) (s : ByteArray) (q : Int) : Prop :=
  ∃ out' D', NodeAt w' b wt out' mb ∧ PMap w' mb (n + 1) D' ∧ Below B w w' ∧ Apart b mb w w' ∧ Step wt out c D s q out' D'

theorem Heard.still {w : World} {B b mb n : Nat} {wt out c : Int} {D : DataW Unit} {s : ByteArray} {q : Int} (h : NodeAt w b wt out mb) (hm : PMap w mb n D) (o1 : out ≤ 9223372036854775807) (k : Nat) : Heard w (w.drewN k) B b mb n wt out c D s q :=
  ⟨out, D, h.drewN k, (show PMap (w.drewN k) mb n D from hm).mono (Nat.le_succ _), below_drewN (Below.refl _ _) _, fun _ _ _ _ => rfl, Int.le_refl _, o1, .inl ⟨rfl, rfl⟩⟩

theorem Heard.raise {w : World} {B b mb n : Nat} {wt out c : Int} {D : DataW Unit} {s : ByteArray} {q : Int} (h : NodeAt w b wt out mb) (hm : PMap w mb n D) (hne : mb ≠ b) (hB : B ≤ b) (o' : Int) (h1 : out ≤ o') (h2 : o' ≤ 9223372036854775807) (hq : wt / 2 < q) (k : Nat) :
    Heard w (((w.drewN k).setCell ⟨b, 20, none⟩ (.bool true)).setCell ⟨b, 56, none⟩ (.int .i64 o')) B b mb n wt out c D s q :=
  ⟨o', D, ((h.drewN k).s20 true).s56 o', ((((show PMap (w.drewN k) mb n D from hm).setCell (a := ⟨b, 20, none⟩) hne _).setCell (a := ⟨b, 56, none⟩) hne _)).mono (Nat.le_succ _),
    ((below_drewN (Below.refl B w) k).setCell (p := ⟨b, 20, none⟩) hB _).setCell (p := ⟨b, 56, none⟩) hB _, fun _ _ h _ => (Below.heap_setCell _ _ _ _ h).trans (Below.heap_setCell _ _ _ _ h), h1, h2, .inr (.inl ⟨hq, rfl⟩)⟩

theorem Heard.quietly {w : World} {B b mb n : Nat} {wt out c : Int} {D : DataW Unit} {s : ByteArray} {q : Int} (h : NodeAt w b wt out mb) (hm : PMap w mb n D) (hne : mb ≠ b) (hB : B ≤ b) (o1 : out ≤ 9223372036854775807) (k : Nat) :
    Heard w ((w.drewN k).setCell ⟨b, 20, none⟩ (.bool true)) B b mb n wt out c D s q :=
  ⟨out, D, (h.drewN k).s20 true, ((show PMap (w.drewN k) mb n D from hm).setCell (a := ⟨b, 20, none⟩) hne _).mono (Nat.le_succ _),
    (below_drewN (Below.refl B w) k).setCell (p := ⟨b, 20, none⟩) hB _, fun _ _ h _ => Below.heap_setCell _ _ _ _ h, Int.le_refl _, o1, .inl ⟨rfl, rfl⟩⟩

theorem Heard.learn {w w1 : World} {B b mb n : Nat} {wt out c : Int} {D : DataW Unit} {s : ByteArray} {q : Int} (h : NodeAt w b wt out mb) (hne : mb ≠ b) (hB : B ≤ b) (hBm : B ≤ mb) (o1 : out ≤ 9223372036854775807) (k : Nat) (l : Int)
    (hm1 : PMap w1 mb (n + 1) (D.put (.string s.data.toList) (.lit (.int .i64 l)))) (hg : ((w.drewN k).setCell ⟨b, 20, none⟩ (.bool true)).grownBy w1 (some mb)) (hq : wt / 2 < q) (h1 : wv false wt out c < l) (h2 : l ≤ 9223372036854775807) :
    Heard w w1 B b mb n wt out c D s q := by
  have hn := (h.drewN k).s20 true
  refine ⟨out, _, hn.at (hg.block b hn.lt (by simpa using fun e => hne e.symm)), hm1, ?_, fun j hj h hm => (hg.block j (by simpa [World.setCell] using hj) (by simpa using hm)).trans (Below.heap_setCell _ _ _ _ h), Int.le_refl _, o1, .inr (.inr ⟨hq, rfl, l, rfl, h1, h2⟩)⟩
  have h3 : Below B w ((w.drewN k).setCell ⟨b, 20, none⟩ (.bool true)) := (below_drewN (Below.refl B w) k).setCell (p := ⟨b, 20, none⟩) hB _
  have hs := hn.lt
  exact h3.grown hg (by omega) (fun j hj => by cases hj; exact hBm)

set_option maxRecDepth 100000 in
set_option maxHeartbeats 400000 in
theorem heard_short (B b mb n : Nat) (wt out c q : Int) (D : DataW Unit) (s : ByteArray) (ol pr : Bool) (w : World) (h : NodeAt w b wt out mb) (hm : PMap w mb n D) (w0 : 0 ≤ wt) (w1 : wt ≤ 9223372036854775807) (o1 : out ≤ 9223372036854775807) (hq : q ≤ wt / 2) :
    Calls Try.prog 37 #[.pointer (some ⟨b, 0, none⟩), .string s, .int .i64 q, .bool ol, .bool pr] w fun e w' => e = .returned (.tuple #[]) ∧ Heard w w' B b mb n wt out c D s q := by
  have c55 := h.c55
  go_enter Try.func37, Try.ntmps37
  go_wp2
  exact bodyPost_ret (v := .tuple #[]) (by simp [results, Try.results37, go_sem]) rfl ⟨rfl, Heard.still h hm o1 0⟩

set_option maxRecDepth 100000 in
set_option maxHeartbeats 400000 in
theorem heard_absent (B b mb n : Nat) (wt out c q : Int) (D : DataW Unit) (s : ByteArray) (ol : Bool) (w : World) (h : NodeAt w b wt out mb) (hm : PMap w mb n D) (hs : s.size ≤ maxLen) (hc : At D s c) (w0 : 0 ≤ wt) (w1 : wt ≤ 9223372036854775807) (o0 : 0 ≤ out) (o1 : out ≤ 9223372036854775807)
    (hq : wt / 2 < q) (q1 : q ≤ 9223372036854775807) (f : Int) (hf : wv false wt out c = f) (f0 : 0 ≤ f) (f1 : f ≤ 9223372036854775807) (hgt : f < q - f) :
    Calls Try.prog 37 #[.pointer (some ⟨b, 0, none⟩), .string s, .int .i64 q, .bool ol, .bool false] w fun e w' => e = .returned (.tuple #[]) ∧ Heard w w' B b mb n wt out c D s q := by
  have c55 := h.c55
  have C := waitFor_all b mb n wt out c D s w h hm hs hc w0 w1 o0 o1
  rw [hf] at C
  have HC : Hid (Calls Try.prog 36 #[.pointer (some ⟨b, 0, none⟩), .string s, .bool false] w fun e w' => e = .returned (.int .i64 f) ∧ ∃ q, w' = w.drewN q) := C
  clear C hf
  go_enter Try.func37, Try.ntmps37
  go_wp2_with fail
  refine HC.out.mono ?_
  rintro e w' ⟨rfl, k, rfl⟩
  clear HC
  go_wp2
  exact bodyPost_ret (v := .tuple #[]) (by simp [results, Try.results37, go_sem]) rfl ⟨rfl, Heard.still h hm o1 k⟩

set_option maxRecDepth 100000 in
set_option maxHeartbeats 800000 in
theorem heard_outlive (B b mb n : Nat) (wt out c q : Int) (D : DataW Unit) (s : ByteArray) (pr : Bool) (w : World) (h : NodeAt w b wt out mb) (hm : PMap w mb n D) (hs : s.size ≤ maxLen) (hc : At D s c) (w0 : 0 ≤ wt) (w1 : wt ≤ 9223372036854775807) (o0 : 0 ≤ out) (o1 : out ≤ 9223372036854775807)
    (hne : mb ≠ b) (hB : B ≤ b) (hq : wt / 2 < q) (q1 : q ≤ 9223372036854775807) (f : Int) (hf : wv false wt out c = f) (f0 : 0 ≤ f) (f1 : f ≤ 9223372036854775807) (hgt : q - f ≤ f ∨ (f < q - f ∧ pr = true)) (hown : Maps.has D (.string s.data.toList) = false) :
    Calls Try.prog 37 #[.pointer (some ⟨b, 0, none⟩), .string s, .int .i64 q, .bool true, .bool pr] w fun e w' => e = .returned (.tuple #[]) ∧ Heard w w' B b mb n wt out c D s q := by
  have c55 := h.c55
  have c56 := h.c56
  have c57 := h.c57
  obtain ⟨r, c20⟩ := h.c20
  have f20 := h.fr 20
  have f56 := h.fr 56
  have C := waitFor_all b mb n wt out c D s w h hm hs hc w0 w1 o0 o1
  rw [hf] at C
  have HC : Hid (Calls Try.prog 36 #[.pointer (some ⟨b, 0, none⟩), .string s, .bool false] w fun e w' => e = .returned (.int .i64 f) ∧ ∃ q, w' = w.drewN q) := C
  clear C hf hc
  rcases hgt with hgt | ⟨hgt, rfl⟩
  · have hd : decide (f < q - f) = false := by simp; omega
    by_cases hmx : out < q
    all_goals
      go_enter Try.func37, Try.ntmps37
      go_wp2_with fail
      refine HC.out.mono ?_
      rintro e w' ⟨rfl, k, rfl⟩
      clear HC
      go_wp2_with (at_lookup; refine wpList_lookup_own_ok_int _ rfl _ _ 83 rfl 9 73 .i64 law9 Try.underlying83 Try.underlying73 (zero73 _) mb n D rfl ((show PMap (w.drewN k) mb n D from hm).setCell (a := ⟨b, 20, none⟩) hne _) _ _ rfl (keyOf_string_mk Try.underlying9 hs) ?_; intro c2 hat2 hwc2)
      refine bodyPost_ret (v := .tuple #[]) (by simp [results, Try.results37, go_sem]) rfl ⟨rfl, ?_⟩
      exact Heard.raise h hm hne hB _ (by omega) (by omega) hq k
  · by_cases hmx : out < q
    all_goals
      go_enter Try.func37, Try.ntmps37
      go_wp2_with fail
      refine HC.out.mono ?_
      rintro e w' ⟨rfl, k, rfl⟩
      clear HC
      go_wp2_with (at_lookup; refine wpList_lookup_own_ok_int _ rfl _ _ 83 rfl 9 73 .i64 law9 Try.underlying83 Try.underlying73 (zero73 _) mb n D rfl ((show PMap (w.drewN k) mb n D from hm).setCell (a := ⟨b, 20, none⟩) hne _) _ _ rfl (keyOf_string_mk Try.underlying9 hs) ?_; intro c2 hat2 hwc2)
      refine bodyPost_ret (v := .tuple #[]) (by simp [results, Try.results37, go_sem]) rfl ⟨rfl, ?_⟩
      exact Heard.raise h hm hne hB _ (by omega) (by omega) hq k

set_option maxRecDepth 100000 in
set_option maxHeartbeats 1600000 in
theorem heard_learn (B b mb n : Nat) (wt out c q : Int) (D : DataW Unit) (s : ByteArray) (ol pr : Bool) (w : World) (h : NodeAt w b wt out mb) (hm : PMap w mb n D) (hs : s.size ≤ maxLen) (hc : At D s c) (w0 : 0 ≤ wt) (w1 : wt ≤ 9223372036854775807) (o0 : 0 ≤ out) (o1 : out ≤ 9223372036854775807)
    (hne : mb ≠ b) (hB : B ≤ b) (hBm : B ≤ mb) (hn : n < maxLen) (hq : wt / 2 < q) (q1 : q ≤ 9223372036854775807) (f : Int) (hf : wv false wt out c = f) (f0 : 0 ≤ f) (f1 : f ≤ 9223372036854775807) (hgt : q - f ≤ f ∨ (f < q - f ∧ pr = true)) (hown : ol = false ∨ (ol = true ∧ Maps.has D (.string s.data.toList) = true)) :
    Calls Try.prog 37 #[.pointer (some ⟨b, 0, none⟩), .string s, .int .i64 q, .bool ol, .bool pr] w fun e w' => e = .returned (.tuple #[]) ∧ Heard w w' B b mb n wt out c D s q := by
  have c55 := h.c55
  have c57 := h.c57
  obtain ⟨r, c20⟩ := h.c20
  have f20 := h.fr 20
  have C := waitFor_all b mb n wt out c D s w h hm hs hc w0 w1 o0 o1
  rw [hf] at C
  have HC : Hid (Calls Try.prog 36 #[.pointer (some ⟨b, 0, none⟩), .string s, .bool false] w fun e w' => e = .returned (.int .i64 f) ∧ ∃ q, w' = w.drewN q) := C
  have HF : Hid (wv false wt out c = f) := hf
  clear C hf hc
  obtain ⟨l, hl, hl1⟩ : ∃ l : Int, l ≤ 9223372036854775807 ∧ ((q ≤ 4611686018427387903 ∧ 2 * q ≤ l ∧ l ≤ 2 * q) ∨ (4611686018427387903 < q ∧ 9223372036854775807 ≤ l)) := by
    by_cases h : q ≤ 4611686018427387903
    · exact ⟨2 * q, by omega, .inl ⟨h, Int.le_refl _, Int.le_refl _⟩⟩
    · exact ⟨9223372036854775807, by omega, .inr ⟨by omega, by omega⟩⟩
  have hgt' : decide (f < q - f) = false ∨ (f < q - f ∧ pr = true) := by
    rcases hgt with h | h
    · exact .inl (by simp; omega)
    · exact .inr h
  clear hgt
  rcases hl1 with ⟨hq2, hl2, hl3⟩ | ⟨hq2, hl2⟩
  · obtain rfl : l = 2 * q := by omega
    by_cases hlf : f < 2 * q
    · rcases hgt' with hd | ⟨hd, rfl⟩ <;> rcases hown with rfl | ⟨rfl, hown⟩
      all_goals
        go_enter Try.func37, Try.ntmps37
        go_wp2_with fail
        refine HC.out.mono ?_
        rintro e w' ⟨rfl, k, rfl⟩
        clear HC
        go_wp2_with (first | (at_lookup; refine wpList_lookup_own_ok_int _ rfl _ _ 83 rfl 9 73 .i64 law9 Try.underlying83 Try.underlying73 (zero73 _) mb n D rfl ((show PMap (w.drewN k) mb n D from hm).setCell (a := ⟨b, 20, none⟩) hne _) _ _ rfl (keyOf_string_mk Try.underlying9 hs) ?_; intro c2 hat2 hwc2) | (at_mapUpdate; refine wpList_mapUpdate_own _ rfl _ _ _ 83 rfl 9 73 law9 Try.underlying83 _ mb n D rfl ((show PMap (w.drewN k) mb n D from hm).setCell (a := ⟨b, 20, none⟩) hne _) hn _ _ _ rfl rfl (keyOf_string_mk Try.underlying9 hs) _ [] (plainElem_int Try.underlying73 (WalkArith.wf_i64 (by omega))) ?_; intro wu hm1 hg1))
        go_end0
        exact ⟨rfl, Heard.learn h hne hB hBm o1 k (2 * q) hm1 hg1 hq (by rw [HF.out]; exact hlf) hl⟩
    · replace hgt' : decide (f < q - f) = false := by
        rcases hgt' with hd | ⟨hd, _⟩
        · exact hd
        · exfalso; omega
      rcases hown with rfl | ⟨rfl, hown⟩
      all_goals
        go_enter Try.func37, Try.ntmps37
        go_wp2_with fail
        refine HC.out.mono ?_
        rintro e w' ⟨rfl, k, rfl⟩
        clear HC
        go_wp2_with (at_lookup; refine wpList_lookup_own_ok_int _ rfl _ _ 83 rfl 9 73 .i64 law9 Try.underlying83 Try.underlying73 (zero73 _) mb n D rfl ((show PMap (w.drewN k) mb n D from hm).setCell (a := ⟨b, 20, none⟩) hne _) _ _ rfl (keyOf_string_mk Try.underlying9 hs) ?_; intro c2 hat2 hwc2)
        go_end0
        exact ⟨rfl, Heard.quietly h hm hne hB o1 k⟩
  · obtain rfl : l = 9223372036854775807 := by omega
    by_cases hlf : f < 9223372036854775807
    · rcases hgt' with hd | ⟨hd, rfl⟩ <;> rcases hown with rfl | ⟨rfl, hown⟩
      all_goals
        go_enter Try.func37, Try.ntmps37
        go_wp2_with fail
        refine HC.out.mono ?_
        rintro e w' ⟨rfl, k, rfl⟩
        clear HC
        go_wp2_with (first | (at_lookup; refine wpList_lookup_own_ok_int _ rfl _ _ 83 rfl 9 73 .i64 law9 Try.underlying83 Try.underlying73 (zero73 _) mb n D rfl ((show PMap (w.drewN k) mb n D from hm).setCell (a := ⟨b, 20, none⟩) hne _) _ _ rfl (keyOf_string_mk Try.underlying9 hs) ?_; intro c2 hat2 hwc2) | (at_mapUpdate; refine wpList_mapUpdate_own _ rfl _ _ _ 83 rfl 9 73 law9 Try.underlying83 _ mb n D rfl ((show PMap (w.drewN k) mb n D from hm).setCell (a := ⟨b, 20, none⟩) hne _) hn _ _ _ rfl rfl (keyOf_string_mk Try.underlying9 hs) _ [] (plainElem_int Try.underlying73 (WalkArith.wf_i64 (by omega))) ?_; intro wu hm1 hg1))
        go_end0
        exact ⟨rfl, Heard.learn h hne hB hBm o1 k 9223372036854775807 hm1 hg1 hq (by rw [HF.out]; exact hlf) hl⟩
    · replace hgt' : decide (f < q - f) = false := by
        rcases hgt' with hd | ⟨hd, _⟩
        · exact hd
        · exfalso; omega
      rcases hown with rfl | ⟨rfl, hown⟩
      all_goals
        go_enter Try.func37, Try.ntmps37
        go_wp2_with fail
        refine HC.out.mono ?_
        rintro e w' ⟨rfl, k, rfl⟩
        clear HC
        go_wp2_with (at_lookup; refine wpList_lookup_own_ok_int _ rfl _ _ 83 rfl 9 73 .i64 law9 Try.underlying83 Try.underlying73 (zero73 _) mb n D rfl ((show PMap (w.drewN k) mb n D from hm).setCell (a := ⟨b, 20, none⟩) hne _) _ _ rfl (keyOf_string_mk Try.underlying9 hs) ?_; intro c2 hat2 hwc2)
        go_end0
        exact ⟨rfl, Heard.quietly h hm hne hB o1 k⟩
end Go.Proofs.Qxb6003726a
