import Derived.Test.Qxb6003696aRows
import Derived.WalkKit
import Derived.WalkSpells
import Derived.WalkLawsBesides
import Derived.Deep.QuietTactic
import Derived.BigQuiet
import Derived.RegionTactic
namespace Go.Proofs.Qxb6003696a
open Go.RowKit

/-- The block of a visit: its six numbers. -/
def VAt (w : World) (b : Nat) (f y e mo mb me : Int) : Prop :=
  w.heap[b]? = some (.cells #[.int .i64 f, .int .i64 y, .int .i64 e, .int .i64 mo, .int .i64 mb, .int .i64 me] 28 (0, 0))

theorem VAt.lt {w : World} {b : Nat} {f y e mo mb me : Int} (h : VAt w b f y e mo mb me) : b < w.heap.size := lt_of_block h
theorem VAt.c0 {w : World} {b : Nat} {f y e mo mb me : Int} (h : VAt w b f y e mo mb me) : w.cell? ⟨b, 0, none⟩ = some (.int .i64 f) := by unfold VAt at h; simp [World.cell?, h]
theorem VAt.c1 {w : World} {b : Nat} {f y e mo mb me : Int} (h : VAt w b f y e mo mb me) : w.cell? ⟨b, 1, none⟩ = some (.int .i64 y) := by unfold VAt at h; simp [World.cell?, h]
theorem VAt.c2 {w : World} {b : Nat} {f y e mo mb me : Int} (h : VAt w b f y e mo mb me) : w.cell? ⟨b, 2, none⟩ = some (.int .i64 e) := by unfold VAt at h; simp [World.cell?, h]
theorem VAt.c3 {w : World} {b : Nat} {f y e mo mb me : Int} (h : VAt w b f y e mo mb me) : w.cell? ⟨b, 3, none⟩ = some (.int .i64 mo) := by unfold VAt at h; simp [World.cell?, h]
theorem VAt.c4 {w : World} {b : Nat} {f y e mo mb me : Int} (h : VAt w b f y e mo mb me) : w.cell? ⟨b, 4, none⟩ = some (.int .i64 mb) := by unfold VAt at h; simp [World.cell?, h]
theorem VAt.c5 {w : World} {b : Nat} {f y e mo mb me : Int} (h : VAt w b f y e mo mb me) : w.cell? ⟨b, 5, none⟩ = some (.int .i64 me) := by unfold VAt at h; simp [World.cell?, h]
theorem VAt.fr {w : World} {b : Nat} {f y e mo mb me : Int} (h : VAt w b f y e mo mb me) (o : Nat) : w.frozen? ⟨b, o, none⟩ = false := by unfold VAt at h; simp [World.frozen?, h]
theorem VAt.drewN {w : World} {b : Nat} {f y e mo mb me : Int} (h : VAt w b f y e mo mb me) (n : Nat) : VAt (w.drewN n) b f y e mo mb me := h

theorem block_setCell {w : World} {b : Nat} {cs : Array Value} {t : TypeId} {q : Nat × Nat} (h : w.heap[b]? = some (.cells cs t q)) (o : Nat) (u : Value) :
    (w.setCell ⟨b, o, none⟩ u).heap[b]? = some (.cells (cs.setIfInBounds o u) t q) := by
  have hlt := lt_of_block h
  have h' : w.heap[b] = .cells cs t q := by simpa [Array.getElem?_eq_getElem hlt] using h
  show (w.heap.modify b _)[b]? = _
  rw [Array.getElem?_eq_getElem (by simpa using hlt), Array.getElem_modify_self, h']
  rfl

theorem VAt.s0 {w : World} {b : Nat} {f y e mo mb me : Int} (h : VAt w b f y e mo mb me) (x : Int) : VAt (w.setCell ⟨b, 0, none⟩ (.int .i64 x)) b x y e mo mb me := by
  unfold VAt at *; rw [block_setCell h]; rfl
theorem VAt.s1 {w : World} {b : Nat} {f y e mo mb me : Int} (h : VAt w b f y e mo mb me) (x : Int) : VAt (w.setCell ⟨b, 1, none⟩ (.int .i64 x)) b f x e mo mb me := by
  unfold VAt at *; rw [block_setCell h]; rfl
theorem VAt.s2 {w : World} {b : Nat} {f y e mo mb me : Int} (h : VAt w b f y e mo mb me) (x : Int) : VAt (w.setCell ⟨b, 2, none⟩ (.int .i64 x)) b f y x mo mb me := by
  unfold VAt at *; rw [block_setCell h]; rfl
theorem VAt.s5 {w : World} {b : Nat} {f y e mo mb me : Int} (h : VAt w b f y e mo mb me) (x : Int) : VAt (w.setCell ⟨b, 5, none⟩ (.int .i64 x)) b f y e mo mb x := by
  unfold VAt at *; rw [block_setCell h]; rfl

set_option maxHeartbeats 400000 in
theorem bytes_any (a0 : Int) (a1 : Option Addr) (l1 c1 : Nat) (a2 : Option Addr) (l2 c2 : Nat) (w : World) (h1 : l1 ≤ maxLen) (h2 : l2 ≤ maxLen) :
    Calls Try.prog 4 #[.int .i64 a0, .slice a1 l1 c1, .slice a2 l2 c2] w fun e w' => ∃ b : Bool, e = .returned (.bool b) ∧ w' = w := by
  unfold maxLen at h1 h2
  go_enter Try.func4, Try.ntmps4
  go_wp2
  all_goals
    go_ret
    exact ⟨_, rfl, rfl⟩

set_option maxHeartbeats 400000 in
theorem fields_any (f b e mo mb me : Int) (w : World) :
    Calls Try.prog 8 #[.agg #[.int .i64 f, .int .i64 b, .int .i64 e, .int .i64 mo, .int .i64 mb, .int .i64 me]] w fun r w' => r = .returned (.tuple #[.int .i64 f, .int .i64 b, .int .i64 e, .int .i64 mo, .int .i64 mb, .int .i64 me]) ∧ Below w.heap.size w w' := by
  go_enter Try.func8, Try.ntmps8
  go_wp2
  go_quiet (fail)
  go_wp2
  exact bodyPost_ret (v := .tuple #[.int .i64 f, .int .i64 b, .int .i64 e, .int .i64 mo, .int .i64 mb, .int .i64 me]) (by simp [results, Try.results8, go_sem]) rfl ⟨rfl, below_drewN ((Below.refl _ _).alloc (Nat.le_refl _) _) _⟩

set_option maxHeartbeats 400000 in
theorem limit_yes (b : Nat) (f y e mo mb me x : Int) (w : World) (h : VAt w b f y e mo mb me) (h0 : 0 ≤ e) (h1 : e ≤ me) (h2 : me ≤ 9223372036854775807) (hx : 0 ≤ x) (hlt : x < me - e) :
    Calls Try.prog 13 #[.pointer (some ⟨b, 0, none⟩), .int .u64 x] w fun r w' => r = .returned (.tuple #[]) ∧ VAt w' b f y e mo mb (e + x) ∧ Below b w w' := by
  have c2 := h.c2
  have c5 := h.c5
  have f5 := h.fr 5
  go_enter Try.func13, Try.ntmps13
  go_wp2
  go_quiet (fail)
  go_wp2
  go_end0
  exact ⟨rfl, (h.drewN _).s5 _, (below_drewN (Below.refl _ _) _).setCell (p := ⟨b, 5, none⟩) (Nat.le_refl _) _⟩

set_option maxHeartbeats 400000 in
theorem limit_no (b : Nat) (f y e mo mb me x : Int) (w : World) (h : VAt w b f y e mo mb me) (h0 : 0 ≤ e) (h1 : e ≤ me) (h2 : me ≤ 9223372036854775807) (_hx : 0 ≤ x) (hlt : me - e ≤ x) :
    Calls Try.prog 13 #[.pointer (some ⟨b, 0, none⟩), .int .u64 x] w fun r w' => r = .returned (.tuple #[]) ∧ VAt w' b f y e mo mb me ∧ Below b w w' := by
  have c2 := h.c2
  have c5 := h.c5
  have f5 := h.fr 5
  go_enter Try.func13, Try.ntmps13
  go_wp2
  go_quiet (fail)
  go_wp2
  go_end0
  exact ⟨rfl, h.drewN _, below_drewN (Below.refl _ _) _⟩

/-- How many events the visit may have behind 'limit'. -/
def lim (e me x : Int) : Int := if x < me - e then e + x else me

theorem limit_any (b : Nat) (f y e mo mb me x : Int) (w : World) (h : VAt w b f y e mo mb me) (h0 : 0 ≤ e) (h1 : e ≤ me) (h2 : me ≤ 9223372036854775807) (hx : 0 ≤ x) :
    Calls Try.prog 13 #[.pointer (some ⟨b, 0, none⟩), .int .u64 x] w fun r w' => r = .returned (.tuple #[]) ∧ VAt w' b f y e mo mb (lim e me x) ∧ Below b w w' := by
  by_cases hlt : x < me - e
  · rw [lim, if_pos hlt]; exact limit_yes b f y e mo mb me x w h h0 h1 h2 hx hlt
  · rw [lim, if_neg hlt]; exact limit_no b f y e mo mb me x w h h0 h1 h2 hx (by omega)

set_option maxHeartbeats 400000 in
theorem visitIn_low (m : Int) (w : World) (hm : m < 1) :
    Calls Try.prog 12 #[.int .i64 m] w fun r w' => r = .returned (.agg #[.int .i64 0, .int .i64 0, .int .i64 0, .int .i64 192, .int .i64 393216, .int .i64 9223372036854775807]) ∧ Below w.heap.size w w' := by
  go_enter Try.func12, Try.ntmps12
  go_wp2
  go_region
  all_goals go_wp2
  exact bodyPost_ret (v := .agg #[.int .i64 0, .int .i64 0, .int .i64 0, .int .i64 192, .int .i64 393216, .int .i64 9223372036854775807]) (by simp [results, Try.results12, go_sem]) rfl ⟨rfl, ((Below.refl _ _).alloc (Nat.le_refl _) _).drew⟩
set_option maxHeartbeats 400000 in
theorem visitIn_mid (m : Int) (w : World) (hm : 1 ≤ m) (hm2 : m ≤ 192) :
    Calls Try.prog 12 #[.int .i64 m] w fun r w' => r = .returned (.agg #[.int .i64 0, .int .i64 0, .int .i64 0, .int .i64 (192 / m), .int .i64 (393216 / m), .int .i64 9223372036854775807]) ∧ Below w.heap.size w w' := by
  have hd : 1 ≤ 192 / m := by rw [Int.le_ediv_iff_mul_le (by omega)]; omega
  have hd2 : 192 / m ≤ 192 := Int.ediv_le_self _ (by omega)
  have hd3 : 0 ≤ 393216 / m := Int.ediv_nonneg (by omega) (by omega)
  have hd4 : 393216 / m ≤ 393216 := Int.ediv_le_self _ (by omega)
  go_enter Try.func12, Try.ntmps12
  go_wp2
  go_region
  all_goals go_wp2
  exact bodyPost_ret (v := .agg #[.int .i64 0, .int .i64 0, .int .i64 0, .int .i64 (192 / m), .int .i64 (393216 / m), .int .i64 9223372036854775807]) (by simp [results, Try.results12, go_sem]) rfl ⟨rfl, ((Below.refl _ _).alloc (Nat.le_refl _) _).drew⟩
set_option maxHeartbeats 400000 in
theorem visitIn_high (m : Int) (w : World) (hm : 193 ≤ m) (hm2 : m ≤ 9223372036854775807) :
    Calls Try.prog 12 #[.int .i64 m] w fun r w' => r = .returned (.agg #[.int .i64 0, .int .i64 0, .int .i64 0, .int .i64 1, .int .i64 (393216 / m), .int .i64 9223372036854775807]) ∧ Below w.heap.size w w' := by
  have hd2 : 192 / m < 1 := by rw [Int.ediv_lt_iff_lt_mul (by omega)]; omega
  have hd : 0 ≤ 192 / m := Int.ediv_nonneg (by omega) (by omega)
  have hd3 : 0 ≤ 393216 / m := Int.ediv_nonneg (by omega) (by omega)
  have hd4 : 393216 / m ≤ 393216 := Int.ediv_le_self _ (by omega)
  go_enter Try.func12, Try.ntmps12
  go_wp2
  go_region
  all_goals go_wp2
  exact bodyPost_ret (v := .agg #[.int .i64 0, .int .i64 0, .int .i64 0, .int .i64 1, .int .i64 (393216 / m), .int .i64 9223372036854775807]) (by simp [results, Try.results12, go_sem]) rfl ⟨rfl, ((Below.refl _ _).alloc (Nat.le_refl _) _).drew⟩

theorem visitIn_any (m : Int) (w : World) (hm : m ≤ 9223372036854775807) :
    Calls Try.prog 12 #[.int .i64 m] w fun r w' => ∃ mo mb : Int, 1 ≤ mo ∧ mo ≤ 192 ∧ 0 ≤ mb ∧ mb ≤ 393216 ∧ r = .returned (.agg #[.int .i64 0, .int .i64 0, .int .i64 0, .int .i64 mo, .int .i64 mb, .int .i64 9223372036854775807]) ∧ Below w.heap.size w w' := by
  by_cases h1 : m < 1
  · refine (visitIn_low m w h1).mono ?_
    rintro e w' ⟨rfl, hb⟩
    exact ⟨192, 393216, by omega, by omega, by omega, by omega, rfl, hb⟩
  · by_cases h2 : m ≤ 192
    · refine (visitIn_mid m w (by omega) h2).mono ?_
      rintro e w' ⟨rfl, hb⟩
      exact ⟨_, _, by rw [Int.le_ediv_iff_mul_le (by omega)]; omega, Int.ediv_le_self _ (by omega), Int.ediv_nonneg (by omega) (by omega), Int.ediv_le_self _ (by omega), rfl, hb⟩
    · refine (visitIn_high m w (by omega) hm).mono ?_
      rintro e w' ⟨rfl, hb⟩
      exact ⟨_, _, by omega, by omega, Int.ediv_nonneg (by omega) (by omega), Int.ediv_le_self _ (by omega), rfl, hb⟩

theorem bcell {W w1 : World} (hb : Below W.heap.size W w1) : (∀ b o, b < W.heap.size → w1.cell? ⟨b, o, none⟩ = W.cell? ⟨b, o, none⟩) ∧ (∀ b o, b < W.heap.size → w1.frozen? ⟨b, o, none⟩ = W.frozen? ⟨b, o, none⟩) :=
  ⟨fun b o h => hb.cell (p := ⟨b, o, none⟩) h, fun b o h => hb.frozen (p := ⟨b, o, none⟩) h⟩

set_option maxHeartbeats 400000 in
theorem zzVisitIn_any (m : Int) (w : World) (hm : m ≤ 9223372036854775807) :
    Calls Try.prog 7 #[.int .i64 m] w fun r w' => ∃ mo mb : Int, 1 ≤ mo ∧ mo ≤ 192 ∧ 0 ≤ mb ∧ mb ≤ 393216 ∧ r = .returned (.agg #[.int .i64 0, .int .i64 0, .int .i64 0, .int .i64 mo, .int .i64 mb, .int .i64 9223372036854775807]) ∧ Below w.heap.size w w' := by
  go_enter Try.func7, Try.ntmps7
  go_wp2_with fail
  refine (visitIn_any _ _ hm).mono ?_
  rintro e w1 ⟨mo, mb, h1, h2, h3, h4, rfl, hb⟩
  obtain ⟨hc, hf⟩ := bcell hb
  have hz : w.heap.size < w1.heap.size := by have := hb.size; simp at this; omega
  go_wp2
  have hbb : Below w.heap.size w w1 := ((Below.refl w.heap.size w).alloc (Nat.le_refl _) _).trans (hb.mono (by simp))
  exact bodyPost_ret (v := .agg #[.int .i64 0, .int .i64 0, .int .i64 0, .int .i64 mo, .int .i64 mb, .int .i64 9223372036854775807]) (by simp [results, Try.results7, go_sem, hc]) rfl ⟨mo, mb, h1, h2, h3, h4, rfl, (((((hbb.setCell (p := ⟨w.heap.size, 0, none⟩) (Nat.le_refl _) _).setCell (p := ⟨w.heap.size, 1, none⟩) (Nat.le_refl _) _).setCell (p := ⟨w.heap.size, 2, none⟩) (Nat.le_refl _) _).setCell (p := ⟨w.heap.size, 3, none⟩) (Nat.le_refl _) _).setCell (p := ⟨w.heap.size, 4, none⟩) (Nat.le_refl _) _).setCell (p := ⟨w.heap.size, 5, none⟩) (Nat.le_refl _) _⟩

set_option maxHeartbeats 400000 in
theorem zzLimit_any (b : Nat) (f y e mo mb me x : Int) (w : World) (h : VAt w b f y e mo mb me) (h0 : 0 ≤ e) (h1 : e ≤ me) (h2 : me ≤ 9223372036854775807) (hx : 0 ≤ x) :
    Calls Try.prog 9 #[.pointer (some ⟨b, 0, none⟩), .int .u64 x] w fun r w' => r = .returned (.tuple #[]) ∧ VAt w' b f y e mo mb (lim e me x) ∧ Below b w w' := by
  go_enter Try.func9, Try.ntmps9
  go_wp2_with fail
  refine (limit_any b f y e mo mb me x _ h h0 h1 h2 hx).mono ?_
  rintro r w1 ⟨rfl, hv, hb⟩
  go_wp2
  go_end0
  exact ⟨rfl, hv, hb⟩

set_option maxHeartbeats 400000 in
theorem take_A (b : Nat) (f y e mo mb me s v : Int) (w : World) (h : VAt w b f y e mo mb me) (hA : (f == mo) = true) :
    Calls Try.prog 14 #[.pointer (some ⟨b, 0, none⟩), .int .i64 s, .int .i64 v] w fun r w' => r = .returned (.bool false) ∧ VAt w' b f y e mo mb me ∧ Below b w w' := by
  have c0 := h.c0
  have c1 := h.c1
  have c2 := h.c2
  have c3 := h.c3
  have c4 := h.c4
  have c5 := h.c5
  go_enter Try.func14, Try.ntmps14
  go_wp2
  go_quiet (fail)
  go_wp2
  go_ret
  exact ⟨rfl, h.drewN _, below_drewN (Below.refl _ _) _⟩

set_option maxHeartbeats 400000 in
theorem take_B (b : Nat) (f y e mo mb me s v : Int) (w : World) (h : VAt w b f y e mo mb me) (hA : (f == mo) = false) (e0 : 0 ≤ e) (e1 : e ≤ 1000000) (v0 : 0 ≤ v) (v1 : v ≤ 255) (hB : me < e + v) :
    Calls Try.prog 14 #[.pointer (some ⟨b, 0, none⟩), .int .i64 s, .int .i64 v] w fun r w' => r = .returned (.bool false) ∧ VAt w' b f y e mo mb me ∧ Below b w w' := by
  have c0 := h.c0
  have c1 := h.c1
  have c2 := h.c2
  have c3 := h.c3
  have c4 := h.c4
  have c5 := h.c5
  go_enter Try.func14, Try.ntmps14
  go_wp2
  go_quiet (fail)
  go_wp2
  go_ret
  exact ⟨rfl, h.drewN _, below_drewN (Below.refl _ _) _⟩

set_option maxHeartbeats 400000 in
theorem take_C (b : Nat) (f y e mo mb me s v : Int) (w : World) (h : VAt w b f y e mo mb me) (hA : (f == mo) = false) (e0 : 0 ≤ e) (e1 : e ≤ 1000000) (v0 : 0 ≤ v) (v1 : v ≤ 255) (hB : e + v ≤ me)
    (hf : 0 < f) (y0 : 0 ≤ y) (y1 : y ≤ 1000000000) (s0 : 0 ≤ s) (s1 : s ≤ 65535) (hC : mb < y + s) :
    Calls Try.prog 14 #[.pointer (some ⟨b, 0, none⟩), .int .i64 s, .int .i64 v] w fun r w' => r = .returned (.bool false) ∧ VAt w' b f y e mo mb me ∧ Below b w w' := by
  have c0 := h.c0
  have c1 := h.c1
  have c2 := h.c2
  have c3 := h.c3
  have c4 := h.c4
  have c5 := h.c5
  have hd : decide (me < e + v) = false := by simpa using hB
  go_enter Try.func14, Try.ntmps14
  go_wp2
  go_quiet (fail)
  go_wp2
  go_ret
  exact ⟨rfl, h.drewN _, below_drewN (Below.refl _ _) _⟩

set_option maxHeartbeats 400000 in
theorem take_D (b : Nat) (f y e mo mb me s v : Int) (w : World) (h : VAt w b f y e mo mb me) (hA : (f == mo) = false) (e0 : 0 ≤ e) (e1 : e ≤ 1000000) (v0 : 0 ≤ v) (v1 : v ≤ 255) (hB : e + v ≤ me)
    (hf : 0 < f) (f1 : f ≤ 192) (y0 : 0 ≤ y) (y1 : y ≤ 1000000000) (s0 : 0 ≤ s) (s1 : s ≤ 65535) (hC : y + s ≤ mb) :
    Calls Try.prog 14 #[.pointer (some ⟨b, 0, none⟩), .int .i64 s, .int .i64 v] w fun r w' => r = .returned (.bool true) ∧ VAt w' b (f + 1) (y + s) (e + v) mo mb me ∧ Below b w w' := by
  have c0 := h.c0
  have c1 := h.c1
  have c2 := h.c2
  have c3 := h.c3
  have c4 := h.c4
  have c5 := h.c5
  have f0 := h.fr 0
  have f1 := h.fr 1
  have f2 := h.fr 2
  have hd : decide (me < e + v) = false := by simpa using hB
  have hd2 : decide (mb < y + s) = false := by simpa using hC
  go_enter Try.func14, Try.ntmps14
  go_wp2
  go_quiet (fail)
  go_wp2
  go_ret
  exact ⟨rfl, (((h.drewN _).s0 _).s1 _).s2 _, (((below_drewN (Below.refl _ _) _).setCell (p := ⟨b, 0, none⟩) (Nat.le_refl _) _).setCell (p := ⟨b, 1, none⟩) (Nat.le_refl _) _).setCell (p := ⟨b, 2, none⟩) (Nat.le_refl _) _⟩

set_option maxHeartbeats 400000 in
theorem take_E (b : Nat) (y e mo mb me s v : Int) (w : World) (h : VAt w b 0 y e mo mb me) (hA : 1 ≤ mo) (e0 : 0 ≤ e) (e1 : e ≤ 1000000) (v0 : 0 ≤ v) (v1 : v ≤ 255) (hB : e + v ≤ me)
    (y0 : 0 ≤ y) (y1 : y ≤ 1000000000) (s0 : 0 ≤ s) (s1 : s ≤ 65535) :
    Calls Try.prog 14 #[.pointer (some ⟨b, 0, none⟩), .int .i64 s, .int .i64 v] w fun r w' => r = .returned (.bool true) ∧ VAt w' b 1 (y + s) (e + v) mo mb me ∧ Below b w w' := by
  have c0 := h.c0
  have c1 := h.c1
  have c2 := h.c2
  have c3 := h.c3
  have c4 := h.c4
  have c5 := h.c5
  have f0 := h.fr 0
  have f1 := h.fr 1
  have f2 := h.fr 2
  have hA0 : ((0 : Int) == mo) = false := by simp; omega
  have hd : decide (me < e + v) = false := by simpa using hB
  go_enter Try.func14, Try.ntmps14
  go_wp2
  go_quiet (fail)
  go_wp2
  go_ret
  exact ⟨rfl, (((h.drewN _).s0 _).s1 _).s2 _, (((below_drewN (Below.refl _ _) _).setCell (p := ⟨b, 0, none⟩) (Nat.le_refl _) _).setCell (p := ⟨b, 1, none⟩) (Nat.le_refl _) _).setCell (p := ⟨b, 2, none⟩) (Nat.le_refl _) _⟩
end Go.Proofs.Qxb6003696a
