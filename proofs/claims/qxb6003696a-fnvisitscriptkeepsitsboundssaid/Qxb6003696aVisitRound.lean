import Derived.Test.Qxb6003696aVisitClone
namespace Go.Proofs.Qxb6003696a
open Go.RowKit

theorem VAt.below {w w' : World} {b : Nat} {f y e mo mb me : Int} (h : VAt w b f y e mo mb me) (hb : Below w.heap.size w w') : VAt w' b f y e mo mb me := by
  have := h.lt
  unfold VAt at *
  rw [hb.block b this]; exact h

/-- Six cells, as the walk reads them. -/
theorem VAt.all {w : World} {b : Nat} {f y e mo mb me : Int} (h : VAt w b f y e mo mb me) :
    w.cell? ⟨b, 0, none⟩ = some (.int .i64 f) ∧ w.cell? ⟨b, 1, none⟩ = some (.int .i64 y) ∧ w.cell? ⟨b, 2, none⟩ = some (.int .i64 e) ∧
    w.cell? ⟨b, 3, none⟩ = some (.int .i64 mo) ∧ w.cell? ⟨b, 4, none⟩ = some (.int .i64 mb) ∧ w.cell? ⟨b, 5, none⟩ = some (.int .i64 me) := ⟨h.c0, h.c1, h.c2, h.c3, h.c4, h.c5⟩

/-- The numbers of a visit in the midst of a script, behind k steps. -/
structure Nums (mo mb : Int) (k : Nat) (t g : Bool) (f y e me : Int) : Prop where
  f0 : 0 ≤ f
  f1 : f ≤ mo
  e0 : 0 ≤ e
  e1 : e ≤ 255 * (k : Int)
  e2 : e ≤ me
  m1 : me ≤ 9223372036854775807
  y0 : 0 ≤ y
  y1 : y ≤ 524287 * (k : Int)
  ht : t = true → 1 ≤ f
  hg : g = true → t = true
  hy : mb < y → f = 1 ∧ g = false

theorem Nums.start {mo mb : Int} (hmo : 1 ≤ mo) (hmb : 0 ≤ mb) : Nums mo mb 0 false false 0 0 0 9223372036854775807 :=
  ⟨by omega, by omega, by omega, by omega, by omega, by omega, by omega, by omega, by simp, by simp, by omega⟩

theorem isRow_below {k : IntKind} {w w' : World} {a : Option Addr} {len cap : Nat} {zs : List Int} (h : IsRow k w a len cap zs) (hb : Below w.heap.size w w') : IsRow k w' a len cap zs := by
  rcases h with h | ⟨x, ha, h1, h2, h3, h4, h5⟩
  · exact .inl h
  · refine .inr ⟨x, ha, h1, h2, h3, fun i hi => ?_, h5⟩
    have h := h4 i hi
    have hlt : (x.add i).block < w.heap.size := by
      rcases Nat.lt_or_ge (x.add i).block w.heap.size with h' | h'
      · exact h'
      · simp [World.cell?, Array.getElem?_eq_none h'] at h
    rw [hb.cell hlt]; exact h

theorem isCopy_at {k : IntKind} {w : World} {a : Option Addr} {len : Nat} {zs : List Int} (h : IsCopy k w a len zs) {j : Nat} (hj : j < len) :
    ∃ g, a = some ⟨g, 0, none⟩ ∧ g < w.heap.size ∧ w.cell? ⟨g, j, none⟩ = some (.int k (zs.getD j 0)) := by
  rcases h with h | ⟨g, ha, hg, hc⟩
  · omega
  · exact ⟨g, ha, hg, hc j hj⟩

theorem getD_bd {zs : List Int} {lo hi : Int} (h0 : lo ≤ 0) (h1 : 0 ≤ hi) (h : ∀ n ∈ zs, lo ≤ n ∧ n ≤ hi) (j : Nat) : lo ≤ zs.getD j 0 ∧ zs.getD j 0 ≤ hi := by
  rw [List.getD_eq_getElem?_getD]
  rcases Nat.lt_or_ge j zs.length with hj | hj
  · rw [List.getElem?_eq_getElem hj]; exact h _ (List.getElem_mem hj)
  · rw [List.getElem?_eq_none hj]; exact ⟨h0, h1⟩

theorem Nums.limit {mo mb : Int} {k : Nat} {t g : Bool} {f y e me m' : Int} (N : Nums mo mb k t g f y e me) (h1 : e ≤ m') (h2 : m' ≤ me) : Nums mo mb (k + 1) t g f y e m' :=
  ⟨N.f0, N.f1, N.e0, by have := N.e1; omega, h1, by have := N.m1; omega, N.y0, by have := N.y1; omega, N.ht, N.hg, N.hy⟩
theorem Nums.stay {mo mb : Int} {k : Nat} {t g : Bool} {f y e me : Int} (N : Nums mo mb k t g f y e me) : Nums mo mb (k + 1) t g f y e me := N.limit N.e2 (Int.le_refl _)

theorem Nums.take {mo mb : Int} {k : Nat} {t g : Bool} {f y e me s v : Int} (N : Nums mo mb k t g f y e me) (hf : f ≠ mo) (he : e + v ≤ me) (hy : f = 0 ∨ y + s ≤ mb) (v0 : 0 ≤ v) (v1 : v ≤ 255) (s0 : 0 ≤ s) (s1 : s ≤ 65535) :
    Nums mo mb (k + 1) true (if t then true else g) (f + 1) (y + s) (e + v) me := by
  obtain ⟨f0, f1, e0, e1, e2, m1, y0, y1, ht, hg, hyy⟩ := N
  refine ⟨by omega, by omega, by omega, by omega, by omega, by omega, by omega, by omega, fun _ => by omega, fun _ => rfl, fun h => ?_⟩
  rcases hy with hy | hy
  · subst hy
    cases t with
    | true => exact absurd (ht rfl) (by omega)
    | false =>
      refine ⟨rfl, ?_⟩
      cases g with
      | true => exact absurd (hg rfl) (by simp)
      | false => rfl
  · omega

theorem Nums.join {mo mb : Int} {k : Nat} {t g : Bool} {f y e me s : Int} (N : Nums mo mb k t g f y e me) (he : e ≠ me) (hy : y + s ≤ mb) (s0 : 0 ≤ s) (s1 : s ≤ 524287) :
    Nums mo mb (k + 1) t (if t then true else g) f (y + s) (e + 1) me := by
  obtain ⟨f0, f1, e0, e1, e2, m1, y0, y1, ht, hg, hyy⟩ := N
  refine ⟨by omega, by omega, by omega, by omega, by omega, by omega, by omega, by omega, ht, fun h => ?_, fun h => by omega⟩
  cases t with
  | true => rfl
  | false => exact hg (by simpa using h)

theorem and_bd (x : Int) (m : Nat) (h0 : 0 ≤ x) (h1 : x ≤ 18446744073709551615) (hm : m < 18446744073709551616) : ∃ s : Int, bits .and .u64 x (m : Int) = s ∧ 0 ≤ s ∧ s ≤ m := by
  refine ⟨_, u64_and x m h0 (by omega) (by omega) (by omega), by omega, ?_⟩
  have : x.toNat &&& (m : Int).toNat ≤ (m : Int).toNat := Nat.and_le_right
  omega

theorem zzLimit_yes (b : Nat) (f y e mo mb me x : Int) (w : World) (h : VAt w b f y e mo mb me) (h0 : 0 ≤ e) (h1 : e ≤ me) (h2 : me ≤ 9223372036854775807) (hx : 0 ≤ x) (hlt : x < me - e) :
    Calls Try.prog 9 #[.pointer (some ⟨b, 0, none⟩), .int .u64 x] w fun r w' => r = .returned (.tuple #[]) ∧ VAt w' b f y e mo mb (e + x) ∧ Below b w w' := by
  have := zzLimit_any b f y e mo mb me x w h h0 h1 h2 hx
  rw [lim, if_pos hlt] at this; exact this
theorem zzLimit_no (b : Nat) (f y e mo mb me x : Int) (w : World) (h : VAt w b f y e mo mb me) (h0 : 0 ≤ e) (h1 : e ≤ me) (h2 : me ≤ 9223372036854775807) (hx : 0 ≤ x) (hlt : me - e ≤ x) :
    Calls Try.prog 9 #[.pointer (some ⟨b, 0, none⟩), .int .u64 x] w fun r w' => r = .returned (.tuple #[]) ∧ VAt w' b f y e mo mb me ∧ Below b w w' := by
  have := zzLimit_any b f y e mo mb me x w h h0 h1 h2 hx
  rw [lim, if_neg (by omega)] at this; exact this

end Go.Proofs.Qxb6003696a
