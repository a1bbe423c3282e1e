import Derived.Test.Qxb6003696aVisitLeaves
namespace Go.Proofs.Qxb6003696a
open Go.RowKit

set_option maxHeartbeats 400000 in
theorem join_A (b : Nat) (f y e mo mb me s : Int) (w : World) (h : VAt w b f y e mo mb me) (hA : (e == me) = true) :
    Calls Try.prog 15 #[.pointer (some ⟨b, 0, none⟩), .int .i64 s] w fun r w' => r = .returned (.bool false) ∧ VAt w' b f y e mo mb me ∧ Below b w w' := by
  have c1 := h.c1
  have c2 := h.c2
  have c4 := h.c4
  have c5 := h.c5
  go_enter Try.func15, Try.ntmps15
  go_wp2
  go_quiet (fail)
  go_wp2
  go_ret
  exact ⟨rfl, h.drewN _, below_drewN (Below.refl _ _) _⟩

set_option maxHeartbeats 400000 in
theorem join_B (b : Nat) (f y e mo mb me s : Int) (w : World) (h : VAt w b f y e mo mb me) (hA : (e == me) = false) (y0 : 0 ≤ y) (y1 : y ≤ 1000000000) (s0 : 0 ≤ s) (s1 : s ≤ 524287) (hC : mb < y + s) :
    Calls Try.prog 15 #[.pointer (some ⟨b, 0, none⟩), .int .i64 s] w fun r w' => r = .returned (.bool false) ∧ VAt w' b f y e mo mb me ∧ Below b w w' := by
  have c1 := h.c1
  have c2 := h.c2
  have c4 := h.c4
  have c5 := h.c5
  go_enter Try.func15, Try.ntmps15
  go_wp2
  go_quiet (fail)
  go_wp2
  go_ret
  exact ⟨rfl, h.drewN _, below_drewN (Below.refl _ _) _⟩

set_option maxHeartbeats 400000 in
theorem join_C (b : Nat) (f y e mo mb me s : Int) (w : World) (h : VAt w b f y e mo mb me) (hA : (e == me) = false) (e0 : 0 ≤ e) (e1 : e ≤ 1000000) (y0 : 0 ≤ y) (y1 : y ≤ 1000000000) (s0 : 0 ≤ s) (s1 : s ≤ 524287) (hC : y + s ≤ mb) :
    Calls Try.prog 15 #[.pointer (some ⟨b, 0, none⟩), .int .i64 s] w fun r w' => r = .returned (.bool true) ∧ VAt w' b f (y + s) (e + 1) mo mb me ∧ Below b w w' := by
  have c1 := h.c1
  have c2 := h.c2
  have c4 := h.c4
  have c5 := h.c5
  have f1 := h.fr 1
  have f2 := h.fr 2
  have hd : decide (mb < y + s) = false := by simpa using hC
  go_enter Try.func15, Try.ntmps15
  go_wp2
  go_quiet (fail)
  go_wp2
  go_ret
  exact ⟨rfl, ((h.drewN _).s1 _).s2 _, ((below_drewN (Below.refl _ _) _).setCell (p := ⟨b, 1, none⟩) (Nat.le_refl _) _).setCell (p := ⟨b, 2, none⟩) (Nat.le_refl _) _⟩

/-- WHAT A take | join MAY DO: refuse, and all is as it was; or count. -/
theorem take_any (b : Nat) (f y e mo mb me s v : Int) (w : World) (h : VAt w b f y e mo mb me) (m0 : 1 ≤ mo) (f0 : 0 ≤ f) (f1 : f ≤ 192) (e0 : 0 ≤ e) (e1 : e ≤ 1000000) (v0 : 0 ≤ v) (v1 : v ≤ 255)
    (y0 : 0 ≤ y) (y1 : y ≤ 1000000000) (s0 : 0 ≤ s) (s1 : s ≤ 65535) :
    Calls Try.prog 14 #[.pointer (some ⟨b, 0, none⟩), .int .i64 s, .int .i64 v] w fun r w' => (r = .returned (.bool false) ∧ VAt w' b f y e mo mb me ∧ Below b w w') ∨
      (f ≠ mo ∧ e + v ≤ me ∧ (f = 0 ∨ y + s ≤ mb) ∧ r = .returned (.bool true) ∧ VAt w' b (f + 1) (y + s) (e + v) mo mb me ∧ Below b w w') := by
  by_cases hA : f = mo
  · exact (take_A b f y e mo mb me s v w h (by simpa using hA)).mono fun r w' q => .inl q
  · have hA' : (f == mo) = false := by simpa using hA
    by_cases hB : e + v ≤ me
    · by_cases hf : f = 0
      · subst hf
        exact (take_E b y e mo mb me s v w h m0 e0 e1 v0 v1 hB y0 y1 s0 s1).mono fun r w' q => .inr ⟨hA, hB, .inl rfl, q⟩
      · by_cases hC : y + s ≤ mb
        · exact (take_D b f y e mo mb me s v w h hA' e0 e1 v0 v1 hB (by omega) f1 y0 y1 s0 s1 hC).mono fun r w' q => .inr ⟨hA, hB, .inr hC, q⟩
        · exact (take_C b f y e mo mb me s v w h hA' e0 e1 v0 v1 hB (by omega) y0 y1 s0 s1 (by omega)).mono fun r w' q => .inl q
    · exact (take_B b f y e mo mb me s v w h hA' e0 e1 v0 v1 (by omega)).mono fun r w' q => .inl q

theorem join_any (b : Nat) (f y e mo mb me s : Int) (w : World) (h : VAt w b f y e mo mb me) (e0 : 0 ≤ e) (e1 : e ≤ 1000000) (y0 : 0 ≤ y) (y1 : y ≤ 1000000000) (s0 : 0 ≤ s) (s1 : s ≤ 524287) :
    Calls Try.prog 15 #[.pointer (some ⟨b, 0, none⟩), .int .i64 s] w fun r w' => (r = .returned (.bool false) ∧ VAt w' b f y e mo mb me ∧ Below b w w') ∨
      (e ≠ me ∧ y + s ≤ mb ∧ r = .returned (.bool true) ∧ VAt w' b f (y + s) (e + 1) mo mb me ∧ Below b w w') := by
  by_cases hA : e = me
  · exact (join_A b f y e mo mb me s w h (by simpa using hA)).mono fun r w' q => .inl q
  · have hA' : (e == me) = false := by simpa using hA
    by_cases hC : y + s ≤ mb
    · exact (join_C b f y e mo mb me s w h hA' e0 e1 y0 y1 s0 s1 hC).mono fun r w' q => .inr ⟨hA, hC, q⟩
    · exact (join_B b f y e mo mb me s w h hA' y0 y1 s0 s1 (by omega)).mono fun r w' q => .inl q

set_option maxHeartbeats 400000 in
theorem zzTake_any (b : Nat) (f y e mo mb me s v : Int) (w : World) (h : VAt w b f y e mo mb me) (m0 : 1 ≤ mo) (f0 : 0 ≤ f) (f1 : f ≤ 192) (e0 : 0 ≤ e) (e1 : e ≤ 1000000) (v0 : 0 ≤ v) (v1 : v ≤ 255)
    (y0 : 0 ≤ y) (y1 : y ≤ 1000000000) (s0 : 0 ≤ s) (s1 : s ≤ 65535) :
    Calls Try.prog 10 #[.pointer (some ⟨b, 0, none⟩), .int .i64 s, .int .i64 v] w fun r w' => (r = .returned (.bool false) ∧ VAt w' b f y e mo mb me ∧ Below b w w') ∨
      (f ≠ mo ∧ e + v ≤ me ∧ (f = 0 ∨ y + s ≤ mb) ∧ r = .returned (.bool true) ∧ VAt w' b (f + 1) (y + s) (e + v) mo mb me ∧ Below b w w') := by
  go_enter Try.func10, Try.ntmps10
  go_wp2_with fail
  refine (take_any b f y e mo mb me s v _ h m0 f0 f1 e0 e1 v0 v1 y0 y1 s0 s1).mono ?_
  rintro r w1 (⟨rfl, q⟩ | ⟨q1, q2, q3, rfl, q⟩)
  · go_wp2
    go_ret
    exact .inl ⟨rfl, q⟩
  · go_wp2
    go_ret
    exact .inr ⟨q1, q2, q3, rfl, q⟩

set_option maxHeartbeats 400000 in
theorem zzJoin_any (b : Nat) (f y e mo mb me s : Int) (w : World) (h : VAt w b f y e mo mb me) (e0 : 0 ≤ e) (e1 : e ≤ 1000000) (y0 : 0 ≤ y) (y1 : y ≤ 1000000000) (s0 : 0 ≤ s) (s1 : s ≤ 524287) :
    Calls Try.prog 11 #[.pointer (some ⟨b, 0, none⟩), .int .i64 s] w fun r w' => (r = .returned (.bool false) ∧ VAt w' b f y e mo mb me ∧ Below b w w') ∨
      (e ≠ me ∧ y + s ≤ mb ∧ r = .returned (.bool true) ∧ VAt w' b f (y + s) (e + 1) mo mb me ∧ Below b w w') := by
  go_enter Try.func11, Try.ntmps11
  go_wp2_with fail
  refine (join_any b f y e mo mb me s _ h e0 e1 y0 y1 s0 s1).mono ?_
  rintro r w1 (⟨rfl, q⟩ | ⟨q1, q2, rfl, q⟩)
  · go_wp2
    go_ret
    exact .inl ⟨rfl, q⟩
  · go_wp2
    go_ret
    exact .inr ⟨q1, q2, rfl, q⟩
end Go.Proofs.Qxb6003696a
