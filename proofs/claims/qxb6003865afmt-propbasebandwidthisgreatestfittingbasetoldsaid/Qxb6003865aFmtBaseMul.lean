import Derived.Test.Qxb6003865aFmtBaseErrs
import Derived.Test.Qxb6003865aFmtBasePlain
namespace Go.Proofs.Qxb6003865aFmt
open Go.RowKit

theorem mask32 (x : Int) (h0 : 0 ≤ x) (h1 : x ≤ 18446744073709551615) : bits .and .u64 x 4294967295 = x % 4294967296 := by
  rw [u64_and x 4294967295 h0 (by omega) (by omega) (by omega)]
  have : x.toNat &&& (4294967295 : Int).toNat = x.toNat % 4294967296 := Nat.and_two_pow_sub_one_eq_mod x.toNat 32
  rw [this]
  omega

set_option maxHeartbeats 400000 in
theorem mul_any (k b : Int) (w : World) (k0 : 0 ≤ k) (k1 : k ≤ 65535) (b0 : 0 ≤ b) (b1 : b ≤ 18446744073709551615) :
    Calls Tryf.prog 18 #[.int .u64 k, .int .u64 b] w fun e w' => e = .returned (.tuple #[.int .u64 ((k * b) / 18446744073709551616), .int .u64 ((k * b) % 18446744073709551616)]) ∧ w' = w := by
  obtain ⟨b2, e2⟩ : ∃ b2, b % 4294967296 = b2 := ⟨_, rfl⟩
  obtain ⟨b3, e3⟩ : ∃ b3, b / 4294967296 = b3 := ⟨_, rfl⟩
  have hb2 : 0 ≤ b2 ∧ b2 ≤ 4294967295 := by omega
  have hb3 : 0 ≤ b3 ∧ b3 ≤ 4294967295 := by omega
  have q1 : bits .and .u64 k 4294967295 = k := by rw [mask32 k k0 (by omega)]; omega
  have q2 : bits .and .u64 b 4294967295 = b2 := by rw [mask32 b b0 b1, e2]
  have q3 : k / 4294967296 = 0 := by omega
  obtain ⟨p0, ep0⟩ : ∃ p0, k * b2 = p0 := ⟨_, rfl⟩
  obtain ⟨p1, ep1⟩ : ∃ p1, k * b3 = p1 := ⟨_, rfl⟩
  have hp0 : 0 ≤ p0 ∧ p0 ≤ 281474976710655 := by
    rw [← ep0]
    exact ⟨Int.mul_nonneg k0 hb2.1, Int.le_trans (Int.mul_le_mul k1 hb2.2 hb2.1 (by omega)) (by omega)⟩
  have hp1 : 0 ≤ p1 ∧ p1 ≤ 281474976710655 := by
    rw [← ep1]
    exact ⟨Int.mul_nonneg k0 hb3.1, Int.le_trans (Int.mul_le_mul k1 hb3.2 hb3.1 (by omega)) (by omega)⟩
  have q4 : bits .and .u64 (p0 / 4294967296) 4294967295 = p0 / 4294967296 := by rw [mask32 _ (by omega) (by omega)]; omega
  have q5 : p0 / 4294967296 / 4294967296 = 0 := by omega
  have EQ : Hid (k * b = p1 * 4294967296 + p0) := by unfold Hid; rw [mul_split, e2, e3, ep0, ep1]
  go_enter Tryf.func18, Tryf.ntmps18
  go_wp2
  go_ret2
  refine ⟨?_, rfl⟩
  have e1 : (p0 / 4294967296 + p1) / 4294967296 = k * b / 18446744073709551616 := by rw [EQ.out]; exact hi_word p0 p1
  have e2 : IntKind.u64.wrap (k * b) = k * b % 18446744073709551616 := IntKind.wrap_u64 _
  rw [← e1, ← e2]
  rfl

theorem ret_bool {a b : Bool} (h : a = b) : Ending.returned (.bool a) = .returned (.bool b) := by rw [h]

/-- The sum's two ways: it carries, or it does not. -/
theorem fits_any (k b g m : Int) (w : World) (k0 : 0 ≤ k) (k1 : k ≤ 65535) (b0 : 0 ≤ b) (b1 : b ≤ 18446744073709551615) (g0 : 0 ≤ g) (g1 : g ≤ 18446744073709551615) (m0 : 0 ≤ m) (m1 : m ≤ 18446744073709551615) :
    Calls Tryf.prog 8 #[.int .u64 k, .int .u64 b, .int .u64 g, .int .u64 m] w fun e w' => e = .returned (.bool (fits k b g m)) ∧ w' = w := by
  obtain ⟨p, ep⟩ : ∃ p, k * b = p := ⟨_, rfl⟩
  have hp0 : 0 ≤ p := by rw [← ep]; exact Int.mul_nonneg k0 b0
  have hp1 : p ≤ 1208907372870555465154560 := by rw [← ep]; exact Int.le_trans (Int.mul_le_mul k1 b1 b0 (by omega)) (by omega)
  have C := mul_any k b w k0 k1 b0 b1
  rw [ep] at C
  have hfit : fits k b g m = decide (p + g ≤ m) := by unfold fits; rw [ep]
  rw [hfit]
  obtain ⟨hi, ehi⟩ : ∃ hi, p / 18446744073709551616 = hi := ⟨_, rfl⟩
  obtain ⟨lo, elo⟩ : ∃ lo, p % 18446744073709551616 = lo := ⟨_, rfl⟩
  rw [ehi, elo] at C
  have hhi : 0 ≤ hi ∧ hi ≤ 65535 := by omega
  have hlo : 0 ≤ lo ∧ lo ≤ 18446744073709551615 := by omega
  have EP : Hid (p = hi * 18446744073709551616 + lo) := by unfold Hid; omega
  have HC : Hid (Calls Tryf.prog 18 #[.int .u64 k, .int .u64 b] w fun e w' => e = .returned (.tuple #[.int .u64 hi, .int .u64 lo]) ∧ w' = w) := C
  clear C ep ehi elo hfit hp0 hp1
  by_cases hc : lo + g ≤ 18446744073709551615
  · go_enter Tryf.func8, Tryf.ntmps8
    go_wp2_with (go_at_call 18; refine HC.out.mono ?_; rintro e w' ⟨rfl, rfl⟩)
    · rename_i hz
      go_ret
      have := EP.out
      exact ⟨ret_bool (decide_eq_decide.2 (by omega)), rfl⟩
    · rename_i hz
      go_ret
      have := EP.out
      exact ⟨ret_bool (decide_eq_false (by omega)).symm, rfl⟩
  · obtain ⟨s, es⟩ : ∃ s, lo + g - 18446744073709551616 = s := ⟨_, rfl⟩
    have hw : IntKind.u64.wrap (lo + g) = s := by rw [IntKind.wrap_u64]; omega
    have hs0 : 0 ≤ s := by omega
    have hsl : s < lo := by omega
    clear es
    go_enter Tryf.func8, Tryf.ntmps8
    go_wp2_with (go_at_call 18; refine HC.out.mono ?_; rintro e w' ⟨rfl, rfl⟩)
    go_ret
    have := EP.out
    exact ⟨ret_bool (decide_eq_false (by omega)).symm, rfl⟩
end Go.Proofs.Qxb6003865aFmt
