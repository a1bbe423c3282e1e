import Derived.Test.Qxb6003774aBreakLeaves
namespace Go.Proofs.Qxb6003774a
open Go.RowKit

set_option maxRecDepth 100000 in
set_option maxHeartbeats 1000000 in
theorem walk_big (a0 : Option Addr) (len0 cap0 : Nat) (a1 : Option Addr) (len1 cap1 : Nat) (w : World) (m0 : len0 ≤ maxLen) (m1 : len1 ≤ maxLen) (hbig : 64 < len1 ∨ (len1 ≤ 64 ∧ 1048576 < len0) ∨ (len1 ≤ 64 ∧ len0 ≤ 1048576 ∧ 1048576 < len0 + 8 * len1)) :
    Calls Try.prog 3 #[.slice a0 len0 cap0, .slice a1 len1 cap1] w fun e w' => e = .returned (.bool true) ∧ Below w.heap.size w w' := by
  rcases hbig with h | ⟨h, h'⟩ | ⟨h, h', h''⟩
  all_goals
    go_enter Try.func3, Try.ntmps3
    go_wp2_with fail
    refine (bytes_any _ _ _ _ _ _ _ m0 m1).mono ?_
    rintro e w ⟨b, rfl, rfl⟩
    cases b
    all_goals
      unfold maxLen at m0 m1
      go_wp2
      go_ret
      exact ⟨rfl, Below.refl _ _⟩
end Go.Proofs.Qxb6003774a
