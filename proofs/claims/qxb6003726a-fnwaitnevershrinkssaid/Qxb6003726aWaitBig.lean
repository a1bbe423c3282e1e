import Derived.Test.Qxb6003726aWaitLeaves
namespace Go.Proofs.Qxb6003726a
open Go.RowKit Go.Maps Go.WideMaps Go.WideElems

set_option maxHeartbeats 400000 in
theorem bytes_huge (p s : Int) (a2 : Option Addr) (len2 cap2 : Nat) (a3 : Option Addr) (len3 cap3 : Nat) (a4 : Option Addr) (len4 cap4 : Nat) (w : World) (m2 : len2 ≤ maxLen) (m3 : len3 ≤ maxLen) (m4 : len4 ≤ maxLen) (h : 1048576 < len2 ∨ 1048576 < len3 ∨ 1048576 < len4) :
    Calls Try.prog 26 #[.int .i64 p, .int .i64 s, .slice a2 len2 cap2, .slice a3 len3 cap3, .slice a4 len4 cap4] w fun e w' => e = .returned (.bool false) ∧ w' = w := by
  unfold maxLen at m2 m3 m4
  by_cases h1 : 1048576 < len2
  · go_enter Try.func26, Try.ntmps26
    go_wp2
    go_ret
    exact ⟨rfl, rfl⟩
  · by_cases h2 : 1048576 < len3
    · clear h
      go_enter Try.func26, Try.ntmps26
      go_wp2
      go_ret
      exact ⟨rfl, rfl⟩
    · have h4 : 1048576 < len4 := by omega
      clear h
      by_cases h3 : 1048576 < len2 + len3
      · go_enter Try.func26, Try.ntmps26
        go_wp2
        go_ret
        exact ⟨rfl, rfl⟩
      · go_enter Try.func26, Try.ntmps26
        go_wp2
        go_ret
        exact ⟨rfl, rfl⟩

set_option maxRecDepth 100000 in
theorem walk_huge (p s : Int) (a2 : Option Addr) (len2 cap2 : Nat) (a3 : Option Addr) (len3 cap3 : Nat) (a4 : Option Addr) (len4 cap4 : Nat) (w : World) (m2 : len2 ≤ maxLen) (m3 : len3 ≤ maxLen) (m4 : len4 ≤ maxLen) (h : 1048576 < len2 ∨ 1048576 < len3 ∨ 1048576 < len4) :
    Calls Try.prog 6 #[.int .i64 p, .int .i64 s, .slice a2 len2 cap2, .slice a3 len3 cap3, .slice a4 len4 cap4] w fun e w' => e = .returned (.bool true) ∧ Below w.heap.size w w' := by
  go_enter Try.func6, Try.ntmps6
  go_wp2_with fail
  refine (bytes_huge _ _ _ _ _ _ _ _ _ _ _ _ m2 m3 m4 h).mono ?_
  rintro e w ⟨rfl, rfl⟩
  clear h
  go_wp2
  go_ret
  exact ⟨rfl, Below.refl _ _⟩

set_option maxRecDepth 100000 in
set_option maxHeartbeats 1000000 in
theorem walk_big (p s : Int) (a2 : Option Addr) (len2 cap2 : Nat) (a3 : Option Addr) (len3 cap3 : Nat) (a4 : Option Addr) (len4 cap4 : Nat) (w : World) (m2 : len2 ≤ 1048576) (m3 : len3 ≤ 1048576) (m4 : len4 ≤ 1048576)
    (hbig : 1048576 < len2 + 8 * len3 + len4 ∨ (len2 + 8 * len3 + len4 ≤ 1048576 ∧ 64 < len2) ∨ (len2 + 8 * len3 + len4 ≤ 1048576 ∧ len2 ≤ 64 ∧ len2 ≠ len3) ∨ (len2 + 8 * len3 + len4 ≤ 1048576 ∧ len2 ≤ 64 ∧ len2 = len3 ∧ len2 ≠ len4)) :
    Calls Try.prog 6 #[.int .i64 p, .int .i64 s, .slice a2 len2 cap2, .slice a3 len3 cap3, .slice a4 len4 cap4] w fun e w' => e = .returned (.bool true) ∧ Below w.heap.size w w' := by
  rcases hbig with h | ⟨h, h'⟩ | ⟨h, h', h''⟩ | ⟨h, h', rfl, h''⟩
  all_goals
    try have hb3 : ((len2 : Int) != (len3 : Int)) = true := by simp; omega
    try have hb4 : ((len2 : Int) != (len4 : Int)) = true := by simp; omega
    go_enter Try.func6, Try.ntmps6
    go_wp2_with fail
    refine (bytes_any _ _ _ _ _ _ _ _ _ _ _ _ (by unfold maxLen; omega) (by unfold maxLen; omega) (by unfold maxLen; omega)).mono ?_
    rintro e w ⟨b, rfl, rfl⟩
    cases b
    all_goals
      go_wp2
      go_ret
      exact ⟨rfl, Below.refl _ _⟩

set_option maxRecDepth 100000 in
set_option maxHeartbeats 1000000 in
theorem walk_neg (p s : Int) (a2 : Option Addr) (n cap2 : Nat) (a3 : Option Addr) (cap3 : Nat) (a4 : Option Addr) (cap4 : Nat) (w : World) (hn : n ≤ 64) (hneg : p < 0 ∨ (0 ≤ p ∧ s < 0)) :
    Calls Try.prog 6 #[.int .i64 p, .int .i64 s, .slice a2 n cap2, .slice a3 n cap3, .slice a4 n cap4] w fun e w' => e = .returned (.bool true) ∧ Below w.heap.size w w' := by
  rcases hneg with h | ⟨h, h'⟩
  all_goals
    go_enter Try.func6, Try.ntmps6
    go_wp2_with fail
    refine (bytes_any _ _ _ _ _ _ _ _ _ _ _ _ (by unfold maxLen; omega) (by unfold maxLen; omega) (by unfold maxLen; omega)).mono ?_
    rintro e w ⟨b, rfl, rfl⟩
    cases b
    all_goals
      go_wp2
      go_ret
      exact ⟨rfl, Below.refl _ _⟩
end Go.Proofs.Qxb6003726a
