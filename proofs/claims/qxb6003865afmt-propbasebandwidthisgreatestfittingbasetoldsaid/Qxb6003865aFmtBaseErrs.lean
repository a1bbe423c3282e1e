import Derived.Test.Qxb6003865aFmtRows
import Derived.Stop.CallBack
import Derived.Stop.IfaceNil
import Derived.WalkKit
import Derived.WalkSpells
import Derived.WalkLawsBesides
import GoSem.ClaimData
namespace Go.Proofs.Qxb6003865aFmt
open Go.RowKit Go.Extern.Stop Go.Stop Go.Extern

/-! ### WHAT THE WALK WANTS OF fmt.Sprintf, a stop of this cut (function 25) -/
theorem call25 (args : Array Value) (w : World) : (callFunc 25 args).run Tryf.prog w = ((FmtStop.sprintf #[9, 100] #[9] args).run Tryf.prog w).andThen fun v w' => .ok (.value v) w' :=
  run_callFunc_extern Tryf.func25 (by kernel_rfl) (by kernel_rfl) (by kernel_rfl) (by kernel_rfl) args w
theorem guardF (name : String) (w : World) : (FmtStop.guard name).run Tryf.prog w = .ok () w := by kernel_rfl
theorem fmtA : FmtStop.printed? ⟨#[37, 100, 32, 105, 115, 32, 111, 117, 116, 32, 111, 102, 32, 114, 97, 110, 103, 101, 32, 49, 32, 116, 111, 32, 37, 100]⟩ 2 = some [(0, 100, false), (1, 100, false)] := by kernel_rfl
theorem fmtAr (w : World) : (FmtDoors.printed ⟨#[37, 100, 32, 105, 115, 32, 111, 117, 116, 32, 111, 102, 32, 114, 97, 110, 103, 101, 32, 49, 32, 116, 111, 32, 37, 100]⟩ 2).run Tryf.prog w = .ok [(0, 100, false), (1, 100, false)] w := by kernel_rfl
theorem fmtB : FmtStop.printed? ⟨#[37, 100, 32, 105, 115, 32, 97, 98, 111, 118, 101, 32, 37, 115, 32, 37, 100]⟩ 3 = some [(0, 100, false), (1, 115, false), (2, 100, false)] := by kernel_rfl
theorem fmtBr (w : World) : (FmtDoors.printed ⟨#[37, 100, 32, 105, 115, 32, 97, 98, 111, 118, 101, 32, 37, 115, 32, 37, 100]⟩ 3).run Tryf.prog w = .ok [(0, 100, false), (1, 115, false), (2, 100, false)] w := by kernel_rfl
theorem op3 : ∃ sh : List UInt8, ∀ (name : String) (x : Int) (w : World), (FmtStop.operand name false 100 false (.iface 3 (.int .i64 x))).run Tryf.prog w = .ok (sh, Go.Extern.Stop.digits 8 (x % 2 ^ 64).toNat) w :=
  ⟨(match (FmtStop.operand (toString 0) false 100 false (.iface 3 (.int .i64 0))).run Tryf.prog default with | .ok v _ => v.1 | _ => []), fun _ _ _ => by kernel_rfl⟩
theorem op22 : ∃ sh : List UInt8, ∀ (name : String) (x : Int) (w : World), (FmtStop.operand name false 100 false (.iface 22 (.int .u64 x))).run Tryf.prog w = .ok (sh, Go.Extern.Stop.digits 8 (x % 2 ^ 64).toNat) w :=
  ⟨(match (FmtStop.operand (toString 0) false 100 false (.iface 22 (.int .u64 0))).run Tryf.prog default with | .ok v _ => v.1 | _ => []), fun _ _ _ => by kernel_rfl⟩
theorem op63 : ∃ sh : List UInt8, ∀ (name : String) (x : ByteArray) (w : World), (FmtStop.operand name false 115 false (.iface 63 (.string x))).run Tryf.prog w = .ok (sh, FmtStop.pack x.data.toList) w :=
  ⟨(match (FmtStop.operand (toString 0) false 115 false (.iface 63 (.string ⟨#[]⟩))).run Tryf.prog default with | .ok v _ => v.1 | _ => []), fun _ _ _ => by kernel_rfl⟩

set_option maxHeartbeats 400000 in
theorem shards_ok (n m : Int) (w : World) (h1 : 1 ≤ n) (h2 : n ≤ m) : Calls Tryf.prog 16 #[.int .i64 n, .int .i64 m] w fun e w' => e = .returned .nilIface ∧ w' = w := by
  have hd : decide (n < 1) = false := by simp; omega
  have hd2 : decide (m < n) = false := by simp; omega
  go_enter Tryf.func16, Tryf.ntmps16
  go_wp2
  go_ret
  exact ⟨rfl, rfl⟩

set_option maxHeartbeats 400000 in
theorem shards_bad (F : Interp) (n m : Int) (w : World) (hF : F.answers w.tape) (h : n < 1 ∨ m < n) : Calls Tryf.prog 16 #[.int .i64 n, .int .i64 m] w fun e w' => (∃ x, e = .returned (.iface 33 x)) ∧ Below w.heap.size w w' := by
  have hF' := answers_open hF
  have k1 := call25
  have k2 := guardF
  have k3 := fmtA
  have k4 := fmtAr
  obtain ⟨sh3, k5⟩ := op3
  rcases h with h | h
  · go_enter Tryf.func16, Tryf.ntmps16
    go_wp2
    go_ret
    exact ⟨⟨_, rfl⟩, (((Below.refl _ _).alloc (Nat.le_refl _) _).alloc (by simp) _).drew⟩
  · by_cases h1 : n < 1
    · go_enter Tryf.func16, Tryf.ntmps16
      go_wp2
      go_ret
      exact ⟨⟨_, rfl⟩, (((Below.refl _ _).alloc (Nat.le_refl _) _).alloc (by simp) _).drew⟩
    · have hd : decide (n < 1) = false := by simpa using h1
      go_enter Tryf.func16, Tryf.ntmps16
      go_wp2
      go_ret
      exact ⟨⟨_, rfl⟩, (((Below.refl _ _).alloc (Nat.le_refl _) _).alloc (by simp) _).drew⟩

set_option maxHeartbeats 400000 in
theorem atMost_ok (p q : ByteArray) (v b : Int) (w : World) (h : v ≤ b) : Calls Tryf.prog 23 #[.string p, .int .u64 v, .string q, .int .u64 b] w fun e w' => e = .returned .nilIface ∧ w' = w := by
  have hd : decide (b < v) = false := by simp; omega
  go_enter Tryf.func23, Tryf.ntmps23
  go_wp2
  go_ret
  exact ⟨rfl, rfl⟩

set_option maxHeartbeats 400000 in
theorem atMost_bad (F : Interp) (p q : ByteArray) (v b : Int) (w : World) (hF : F.answers w.tape) (h : b < v) : Calls Tryf.prog 23 #[.string p, .int .u64 v, .string q, .int .u64 b] w fun e w' => (∃ x, e = .returned (.iface 33 x)) ∧ Below w.heap.size w w' := by
  have hF' := answers_open hF
  have k1 := call25
  have k2 := guardF
  have k3 := fmtB
  have k4 := fmtBr
  obtain ⟨sh22, k5⟩ := op22
  obtain ⟨sh63, k6⟩ := op63
  go_enter Tryf.func23, Tryf.ntmps23
  go_wp2
  go_ret
  exact ⟨⟨_, rfl⟩, (((Below.refl _ _).alloc (Nat.le_refl _) _).alloc (by simp) _).drew⟩

set_option maxHeartbeats 400000 in
theorem grant_ok (M G : Int) (w : World) (h : G ≤ M) : Calls Tryf.prog 17 #[.int .u64 M, .int .u64 G] w fun e w' => e = .returned .nilIface ∧ w' = w := by
  go_enter Tryf.func17, Tryf.ntmps17
  go_wp2_with (go_at_call 23; refine (atMost_ok _ _ _ _ _ h).mono ?_; rintro e w' ⟨rfl, rfl⟩)
  go_ret
  exact ⟨rfl, rfl⟩

set_option maxHeartbeats 400000 in
theorem grant_bad (F : Interp) (M G : Int) (w : World) (hF : F.answers w.tape) (h : M < G) : Calls Tryf.prog 17 #[.int .u64 M, .int .u64 G] w fun e w' => (∃ x, e = .returned (.iface 33 x)) ∧ Below w.heap.size w w' := by
  go_enter Tryf.func17, Tryf.ntmps17
  go_wp2_with fail
  refine (atMost_bad F _ _ _ _ _ hF h).mono ?_
  rintro e w' ⟨⟨x, rfl⟩, hb⟩
  go_wp2
  go_ret
  exact ⟨⟨_, rfl⟩, hb⟩

/-- A pointer to a ParamError in the place of an error is not nil. -/
theorem ne_nil (x : Value) (w : World) : (binOp .neq 24 (.iface 33 x) .nilIface).run Tryf.prog w = .ok (.bool true) w := by kernel_rfl
theorem ne_nil_nil (w : World) : (binOp .neq 24 .nilIface .nilIface).run Tryf.prog w = .ok (.bool false) w := by kernel_rfl

set_option maxHeartbeats 400000 in
theorem base_bad1 (F : Interp) (n M G c : Int) (w : World) (hF : F.answers w.tape) (h : n < 1 ∨ 65535 < n) :
    Calls Tryf.prog 7 #[.int .i64 n, .int .u64 M, .int .u64 G, .int .u64 c] w fun e w' => (∃ x, e = .returned (.tuple #[.int .u64 0, .iface 33 x])) ∧ Below w.heap.size w w' := by
  have k1 := ne_nil
  go_enter Tryf.func7, Tryf.ntmps7
  go_wp2_with fail
  refine (shards_bad F _ _ _ hF h).mono ?_
  rintro e w' ⟨⟨x, rfl⟩, hb⟩
  go_wp2
  go_ret2
  exact ⟨⟨_, rfl⟩, hb⟩

set_option maxHeartbeats 400000 in
theorem base_bad2 (F : Interp) (n M G c : Int) (w : World) (hF : F.answers w.tape) (h1 : 1 ≤ n) (h2 : n ≤ 65535) (h : M < G) :
    Calls Tryf.prog 7 #[.int .i64 n, .int .u64 M, .int .u64 G, .int .u64 c] w fun e w' => (∃ x, e = .returned (.tuple #[.int .u64 0, .iface 33 x])) ∧ Below w.heap.size w w' := by
  have k1 := ne_nil
  have k2 := ne_nil_nil
  go_enter Tryf.func7, Tryf.ntmps7
  go_wp2_with (go_at_call 16; refine (shards_ok _ _ _ h1 h2).mono ?_; rintro e w' ⟨rfl, rfl⟩)
  refine (grant_bad F _ _ _ hF h).mono ?_
  rintro e w' ⟨⟨x, rfl⟩, hb⟩
  go_wp2
  go_ret2
  exact ⟨⟨_, rfl⟩, hb⟩

set_option maxHeartbeats 400000 in
theorem base_one (M G c : Int) (w : World) (h : G ≤ M) :
    Calls Tryf.prog 7 #[.int .i64 1, .int .u64 M, .int .u64 G, .int .u64 c] w fun e w' => e = .returned (.tuple #[.int .u64 c, .nilIface]) ∧ w' = w := by
  have k2 := ne_nil_nil
  go_enter Tryf.func7, Tryf.ntmps7
  go_wp2_with (first | (go_at_call 16; refine (shards_ok _ _ _ (by omega) (by omega)).mono ?_; rintro e w' ⟨rfl, rfl⟩) | (go_at_call 17; refine (grant_ok _ _ _ h).mono ?_; rintro e w' ⟨rfl, rfl⟩))
  go_ret2
  exact ⟨rfl, rfl⟩

set_option maxHeartbeats 400000 in
theorem base_many (n M G c : Int) (w : World) (h1 : 2 ≤ n) (h2 : n ≤ 65535) (h : G ≤ M) (g0 : 0 ≤ G) (m1 : M ≤ 18446744073709551615) (_c0 : 0 ≤ c) :
    Calls Tryf.prog 7 #[.int .i64 n, .int .u64 M, .int .u64 G, .int .u64 c] w fun e w' => e = .returned (.tuple #[.int .u64 (min c ((M - G) / (n - 1))), .nilIface]) ∧ w' = w := by
  have k2 := ne_nil_nil
  have hn1 : (n == 1) = false := by simp; omega
  have hq0 : 0 ≤ (M - G) / (n - 1) := Int.ediv_nonneg (by omega) (by omega)
  have hq1 : (M - G) / (n - 1) ≤ M - G := Int.ediv_le_self _ (by omega)
  go_enter Tryf.func7, Tryf.ntmps7
  go_wp2_with (first | (go_at_call 16; refine (shards_ok _ _ _ (by omega) (by omega)).mono ?_; rintro e w' ⟨rfl, rfl⟩) | (go_at_call 17; refine (grant_ok _ _ _ h).mono ?_; rintro e w' ⟨rfl, rfl⟩))
  all_goals go_ret2
  · exact ⟨by rw [Int.min_eq_right (by omega)]; rfl, rfl⟩
  · exact ⟨by rw [Int.min_eq_left (by omega)]; rfl, rfl⟩
end Go.Proofs.Qxb6003865aFmt
