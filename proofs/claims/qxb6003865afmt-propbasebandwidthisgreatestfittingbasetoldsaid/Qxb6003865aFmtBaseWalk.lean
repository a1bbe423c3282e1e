import Derived.Test.Qxb6003865aFmtBaseMul
namespace Go.Proofs.Qxb6003865aFmt
open Go.RowKit Go.Extern.Stop Go.Stop Go.Extern

set_option maxHeartbeats 400000 in
theorem law_bad1 (F : Interp) (n M G c : Int) (w : World) (hF : F.answers w.tape) (h : n < 1 ∨ 65535 < n) :
    Calls Tryf.prog 3 #[.int .i64 n, .int .u64 M, .int .u64 G, .int .u64 c] w fun e w' => e = .returned (.bool true) ∧ Below w.heap.size w w' := by
  have k1 := ne_nil
  by_cases h1 : n < 1
  · go_enter Tryf.func3, Tryf.ntmps3
    go_wp2_with fail
    refine (base_bad1 F _ _ _ _ _ hF h).mono ?_
    rintro e w' ⟨⟨x, rfl⟩, hb⟩
    go_wp2
    go_ret
    exact ⟨rfl, hb⟩
  · have h2 : 65535 < n := by omega
    have hd : decide (n < 1) = false := by simpa using h1
    go_enter Tryf.func3, Tryf.ntmps3
    go_wp2_with fail
    refine (base_bad1 F _ _ _ _ _ hF h).mono ?_
    rintro e w' ⟨⟨x, rfl⟩, hb⟩
    go_wp2
    go_ret
    exact ⟨rfl, hb⟩

set_option maxHeartbeats 400000 in
theorem law_bad2 (F : Interp) (n M G c : Int) (w : World) (hF : F.answers w.tape) (h1 : 1 ≤ n) (h2 : n ≤ 65535) (h : M < G) :
    Calls Tryf.prog 3 #[.int .i64 n, .int .u64 M, .int .u64 G, .int .u64 c] w fun e w' => e = .returned (.bool true) ∧ Below w.heap.size w w' := by
  have k1 := ne_nil
  have hd : decide (n < 1) = false := by simp; omega
  have hd2 : decide (65535 < n) = false := by simp; omega
  go_enter Tryf.func3, Tryf.ntmps3
  go_wp2_with fail
  refine (base_bad2 F _ _ _ _ _ hF h1 h2 h).mono ?_
  rintro e w' ⟨⟨x, rfl⟩, hb⟩
  go_wp2
  go_ret
  exact ⟨rfl, hb⟩

set_option maxHeartbeats 400000 in
theorem law_one (M G c : Int) (w : World) (h : G ≤ M) (g0 : 0 ≤ G) (m1 : M ≤ 18446744073709551615) (c0 : 0 ≤ c) (c1 : c ≤ 18446744073709551615) :
    Calls Tryf.prog 3 #[.int .i64 1, .int .u64 M, .int .u64 G, .int .u64 c] w fun e w' => e = .returned (.bool true) ∧ Below w.heap.size w w' := by
  have k2 := ne_nil_nil
  have hd3 : decide (M < G) = false := by simp; omega
  have hd4 : decide (c < c) = false := by simp
  have hf : fits 0 c G M = true := by unfold fits; simp; omega
  go_enter Tryf.func3, Tryf.ntmps3
  go_wp2_with fail
  refine (base_one M G c _ h).mono ?_
  rintro e w ⟨rfl, rfl⟩
  go_wp2_with fail
  refine (fits_any 0 c G M _ (by omega) (by omega) c0 c1 g0 (by omega) (by omega) m1).mono ?_
  rintro e w ⟨rfl, rfl⟩
  go_wp2
  go_ret
  exact ⟨rfl, Below.refl _ _⟩

set_option maxHeartbeats 800000 in
theorem law_many (n M G c : Int) (w : World) (h1 : 2 ≤ n) (h2 : n ≤ 65535) (h : G ≤ M) (g0 : 0 ≤ G) (m1 : M ≤ 18446744073709551615) (c0 : 0 ≤ c) (c1 : c ≤ 18446744073709551615) :
    Calls Tryf.prog 3 #[.int .i64 n, .int .u64 M, .int .u64 G, .int .u64 c] w fun e w' => e = .returned (.bool true) ∧ Below w.heap.size w w' := by
  have k2 := ne_nil_nil
  have hd : decide (n < 1) = false := by simp; omega
  have hd2 : decide (65535 < n) = false := by simp; omega
  have hd3 : decide (M < G) = false := by simp; omega
  have hq0 : 0 ≤ (M - G) / (n - 1) := Int.ediv_nonneg (by omega) (by omega)
  have hq1 : (M - G) / (n - 1) ≤ M - G := Int.ediv_le_self _ (by omega)
  obtain ⟨b, eb⟩ : ∃ b, min c ((M - G) / (n - 1)) = b := ⟨_, rfl⟩
  have hb0 : 0 ≤ b := by omega
  have hb1 : b ≤ c := by omega
  have hd4 : decide (c < b) = false := by simp; omega
  have hf := base_fits (k := n - 1) (M := M) (G := G) (c := c) (by omega)
  rw [eb] at hf
  have C := base_many n M G c w h1 h2 h g0 m1 c0
  rw [eb] at C
  have HC : Hid (Calls Tryf.prog 7 #[.int .i64 n, .int .u64 M, .int .u64 G, .int .u64 c] w fun e w' => e = .returned (.tuple #[.int .u64 b, .nilIface]) ∧ w' = w) := C
  clear C
  by_cases hbc : b = c
  · have EB : Hid (b = c) := hbc
    have hbc' : (b == c) = true := by simpa using hbc
    clear hbc eb
    go_enter Tryf.func3, Tryf.ntmps3
    go_wp2_with fail
    refine HC.out.mono ?_
    rintro e w ⟨rfl, rfl⟩
    clear HC
    go_wp2_with fail
    refine (fits_any (n - 1) b G M _ (by omega) (by omega) hb0 (by omega) g0 (by omega) (by omega) m1).mono ?_
    rintro e w ⟨rfl, rfl⟩
    go_wp2
    go_ret
    exact ⟨rfl, Below.refl _ _⟩
  · have hlt : (M - G) / (n - 1) < c := by omega
    have hf2 := base_next (k := n - 1) (M := M) (G := G) (c := c) (by omega) hlt
    rw [eb] at hf2
    have hbc' : (b == c) = false := by simpa using hbc
    clear eb
    go_enter Tryf.func3, Tryf.ntmps3
    go_wp2_with fail
    refine HC.out.mono ?_
    rintro e w ⟨rfl, rfl⟩
    clear HC
    go_wp2_with fail
    refine (fits_any (n - 1) b G M _ (by omega) (by omega) hb0 (by omega) g0 (by omega) (by omega) m1).mono ?_
    rintro e w ⟨rfl, rfl⟩
    go_wp2_with fail
    refine (fits_any (n - 1) (b + 1) G M _ (by omega) (by omega) (by omega) (by omega) g0 (by omega) (by omega) m1).mono ?_
    rintro e w ⟨rfl, rfl⟩
    go_wp2
    go_ret
    exact ⟨rfl, Below.refl _ _⟩

theorem law_all (F : Interp) (n M G c : Int) (w : World) (hF : F.answers w.tape) (m1 : M ≤ 18446744073709551615) (g0 : 0 ≤ G) (c0 : 0 ≤ c) (c1 : c ≤ 18446744073709551615) :
    Calls Tryf.prog 3 #[.int .i64 n, .int .u64 M, .int .u64 G, .int .u64 c] w fun e w' => e = .returned (.bool true) ∧ Below w.heap.size w w' := by
  by_cases h : n < 1 ∨ 65535 < n
  · exact law_bad1 F n M G c w hF h
  · by_cases hg : M < G
    · exact law_bad2 F n M G c w hF (by omega) (by omega) hg
    · by_cases h1 : n = 1
      · subst h1; exact law_one M G c w (by omega) g0 m1 c0 c1
      · exact law_many n M G c w (by omega) (by omega) (by omega) g0 m1 c0 c1
end Go.Proofs.Qxb6003865aFmt
