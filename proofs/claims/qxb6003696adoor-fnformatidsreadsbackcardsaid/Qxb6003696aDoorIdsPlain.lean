/- THE PLAIN LAW: decimals parted by commas read back: no Go in sight. -/
import Derived.Lib.ItoaNum
import Derived.Lib.Join
namespace Go.Proofs.Qxb6003696aDoor
open Go.Lib

/-- The number that digits spell. -/
def valOf (l : List UInt8) : Nat := l.foldl (fun a c => a * 10 + (c.toNat - 48)) 0
theorem valOf_nil : valOf [] = 0 := rfl
theorem valOf_snoc (l : List UInt8) (c : UInt8) : valOf (l ++ [c]) = valOf l * 10 + (c.toNat - 48) := by simp [valOf]

theorem digit_toNat (d : Nat) (h : d < 10) : (UInt8.ofNat (48 + d)).toNat = 48 + d := by
  rw [UInt8.toNat_ofNat']; omega

theorem dec_small {u : Nat} (h : u < 10) : decDigits u = [UInt8.ofNat (48 + u)] := by rw [decDigits, dif_pos h]
theorem dec_big {u : Nat} (h : ¬ u < 10) : decDigits u = decDigits (u / 10) ++ [UInt8.ofNat (48 + u % 10)] := by rw [decDigits, dif_neg h]

theorem valOf_dec (u : Nat) : valOf (decDigits u) = u := by
  induction u using Nat.strongRecOn with
  | _ u ih =>
    by_cases h : u < 10
    · rw [dec_small h, ← List.nil_append [UInt8.ofNat (48 + u)], valOf_snoc, valOf_nil, digit_toNat u h]; omega
    · rw [dec_big h, valOf_snoc, ih (u / 10) (by omega), digit_toNat (u % 10) (by omega)]; omega

theorem dec_digits (u : Nat) : ∀ c ∈ decDigits u, 48 ≤ c.toNat ∧ c.toNat ≤ 57 := by
  induction u using Nat.strongRecOn with
  | _ u ih =>
    intro c hc
    by_cases h : u < 10
    · rw [dec_small h, List.mem_singleton] at hc
      subst hc; rw [digit_toNat u h]; omega
    · rw [dec_big h, List.mem_append, List.mem_singleton] at hc
      rcases hc with hc | hc
      · exact ih (u / 10) (by omega) c hc
      · subst hc; rw [digit_toNat (u % 10) (by omega)]; omega

theorem dec_pos (u : Nat) : 1 ≤ (decDigits u).length := by
  by_cases h : u < 10
  · rw [dec_small h]; simp
  · rw [dec_big h]; simp

theorem dec_len_le (u : Nat) : (decDigits u).length ≤ u + 1 := by
  induction u using Nat.strongRecOn with
  | _ u ih =>
    by_cases h : u < 10
    · rw [dec_small h]; simp
    · rw [dec_big h, List.length_append, List.length_singleton]
      have := ih (u / 10) (by omega)
      omega

/-- No leading zero. -/
theorem dec_head (u : Nat) : ∀ c, (decDigits u)[0]? = some c → c.toNat = 48 → (decDigits u).length = 1 := by
  induction u using Nat.strongRecOn with
  | _ u ih =>
    intro c hc h48
    by_cases h : u < 10
    · rw [dec_small h]; simp
    · exfalso
      rw [dec_big h, List.getElem?_append_left (by have := dec_pos (u / 10); omega)] at hc
      by_cases h10 : u / 10 < 10
      · rw [dec_small h10] at hc
        simp only [List.getElem?_cons_zero, Option.some.injEq] at hc
        rw [← hc, digit_toNat _ h10] at h48
        omega
      · have h1 := ih (u / 10) (by omega) c hc h48
        rw [dec_big h10, List.length_append, List.length_singleton] at h1
        have := dec_pos (u / 10 / 10)
        omega

/-- A prefix spells no greater number. -/
theorem valOf_take_le (l : List UInt8) (t : Nat) : valOf (l.take t) ≤ valOf l := by
  have hm : ∀ (l : List UInt8) (a : Nat), a ≤ l.foldl (fun a c => a * 10 + (c.toNat - 48)) a := by
    intro l
    induction l with
    | nil => intro a; simp
    | cons c l ih =>
      intro a; simp only [List.foldl_cons]
      exact Nat.le_trans (by omega) (ih _)
  unfold valOf
  conv => rhs; rw [← List.take_append_drop t l, List.foldl_append]
  exact hm _ _

theorem valOf_take_succ {l : List UInt8} {t : Nat} {c : UInt8} (h : l[t]? = some c) : valOf (l.take (t + 1)) = valOf (l.take t) * 10 + (c.toNat - 48) := by
  rw [List.take_add_one, h, Option.toList_some, valOf_snoc]

/-! ### The text -/
/-- What is left of the text at place i spells the numbers ns, commas between. -/
def Rest (L : List UInt8) (i : Nat) (ns : List Nat) : Prop := L.drop i = join (ns.map decDigits) [44]

theorem rest_digit {L : List UInt8} {i u : Nat} {ns : List Nat} (h : Rest L i (u :: ns)) {t : Nat} (ht : t < (decDigits u).length) : L[i + t]? = (decDigits u)[t]? := by
  have h' : L.drop i = decDigits u ++ joinTail [44] (ns.map decDigits) := by unfold Rest at h; rw [h, List.map_cons, join_cons]
  rw [← List.getElem?_drop, h', List.getElem?_append_left ht]

theorem rest_end {L : List UInt8} {i u : Nat} (h : Rest L i [u]) (hi : i ≤ L.length) : L.length = i + (decDigits u).length := by
  have h' : L.drop i = decDigits u := by unfold Rest at h; rw [h, List.map_cons, List.map_nil, join_one]
  have := congrArg List.length h'
  rw [List.length_drop] at this
  omega

theorem rest_comma {L : List UInt8} {i u v : Nat} {ns : List Nat} (h : Rest L i (u :: v :: ns)) : L[i + (decDigits u).length]? = some 44 ∧ Rest L (i + (decDigits u).length + 1) (v :: ns) := by
  have h' : L.drop i = decDigits u ++ (44 :: join ((v :: ns).map decDigits) [44]) := by
    unfold Rest at h
    rw [h, List.map_cons, join_cons]
    congr 1
    simp only [List.map_cons, joinTail, List.flatten_cons, join_cons]
    rfl
  constructor
  · rw [← List.getElem?_drop, h', List.getElem?_append_right (Nat.le_refl _)]
    simp
  · unfold Rest
    rw [Nat.add_assoc, ← List.drop_drop, h', List.drop_append]
    simp

theorem rest_le {L : List UInt8} {i u : Nat} {ns : List Nat} (h : Rest L i (u :: ns)) : i + (decDigits u).length ≤ L.length := by
  have h' : L.drop i = decDigits u ++ joinTail [44] (ns.map decDigits) := by unfold Rest at h; rw [h, List.map_cons, join_cons]
  have := congrArg List.length h'
  rw [List.length_drop, List.length_append] at this
  have := dec_pos u
  omega

theorem join_len (ns : List Nat) (B : Nat) (h : ∀ n ∈ ns, n ≤ B) : (join (ns.map decDigits) [44]).length ≤ ns.length * (B + 2) := by
  cases ns with
  | nil => simp [join_nil]
  | cons u ns =>
    rw [List.map_cons, join_cons, List.length_append, joinTail_length]
    have hl : ∀ ms : List Nat, (∀ n ∈ ms, n ≤ B) → lens (ms.map decDigits) ≤ ms.length * (B + 1) := by
      intro ms
      induction ms with
      | nil => intro _; simp [lens]
      | cons m ms ih =>
        intro hm
        have h1 := ih (fun n hn => hm n (List.mem_cons_of_mem _ hn))
        have h2 := dec_len_le m
        have h3 := hm m List.mem_cons_self
        simp only [lens, List.map_cons, List.sum_cons, List.length_cons] at h1 ⊢
        rw [Nat.add_mul]
        omega
    have h1 := hl ns (fun n hn => h n (List.mem_cons_of_mem _ hn))
    have h2 := dec_len_le u
    have h3 := h u List.mem_cons_self
    simp only [List.length_cons, List.length_nil, List.length_map, Nat.zero_add, Nat.one_mul]
    rw [Nat.add_mul, Nat.mul_add]
    rw [Nat.mul_add] at h1
    omega

end Go.Proofs.Qxb6003696aDoor
