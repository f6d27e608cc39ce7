/-
  Plain laws on decimal numerals: what strconv writes of an int64 is what it reads back.
-/
import Derived.Lib.ItoaMem
import Derived.Lib.ItoaLen
import Derived.Lib.ParseIntB
namespace Go.Proofs.YbulkcjhaDoor
open Go.Lib

theorem digit_toNat (d : Nat) (h : d < 10) : (UInt8.ofNat (48 + d)).toNat = 48 + d := by
  simp [UInt8.toNat_ofNat']; omega

theorem dec_digits (u : Nat) : ∀ c ∈ decDigits u, 48 ≤ c.toNat ∧ c.toNat ≤ 57 := by
  induction u using Nat.strongRecOn with
  | _ u ih =>
    rw [decDigits]
    split
    · intro c hc
      simp only [List.mem_singleton] at hc
      subst hc
      rw [digit_toNat u (by omega)]; omega
    · intro c hc
      rcases List.mem_append.1 hc with h | h
      · exact ih (u / 10) (by omega) c h
      · simp only [List.mem_singleton] at h
        subst h
        rw [digit_toNat (u % 10) (by omega)]; omega

theorem dec_ne (u : Nat) : decDigits u ≠ [] := by
  rw [decDigits]; split <;> simp

theorem dec_head (u : Nat) (h : u ≠ 0) : ∀ c r, decDigits u = c :: r → c.toNat ≠ 48 := by
  induction u using Nat.strongRecOn with
  | _ u ih =>
    rw [decDigits]
    split
    · intro c r e
      simp only [List.cons.injEq] at e
      rw [← e.1, digit_toNat u (by omega)]; omega
    · intro c r e
      cases hd : decDigits (u / 10) with
      | nil => exact absurd hd (dec_ne _)
      | cons c' r' =>
        rw [hd] at e
        simp only [List.cons_append, List.cons.injEq] at e
        rw [← e.1]
        exact ih (u / 10) (by omega) (by omega) c' r' hd

theorem dec_zero : decDigits 0 = [48] := by rw [decDigits]; simp

theorem parse_snoc (M : Nat) (c : UInt8) (hc : 48 ≤ c.toNat ∧ c.toNat ≤ 57) (l : List UInt8) : ∀ acc a, parseUintM M acc l = .ok a → a < 1844674407370955162 → a * 10 + (c.toNat - 48) ≤ M →
    parseUintM M acc (l ++ [c]) = .ok (a * 10 + (c.toNat - 48)) := by
  induction l with
  | nil =>
    intro acc a h1 h2 h3
    simp only [parseUintM, NumEnd.ok.injEq] at h1
    subst h1
    simp only [List.nil_append, parseUintM, hc, and_self, if_true]
    rw [if_neg (by omega), if_neg (by omega)]
  | cons x r ih =>
    intro acc a h1 h2 h3
    simp only [List.cons_append, parseUintM] at h1 ⊢
    split at h1
    · split at h1
      · cases h1
      · split at h1
        · cases h1
        · rename_i q1 q2 q3
          rw [if_pos q1, if_neg q2, if_neg q3]
          exact ih _ _ h1 h2 h3
    · cases h1

theorem parse_dec (u : Nat) (h : u ≤ 18446744073709551615) : parseUintM 18446744073709551615 0 (decDigits u) = .ok u := by
  induction u using Nat.strongRecOn with
  | _ u ih =>
    rw [decDigits]
    split
    · rename_i h10
      have hd := digit_toNat u h10
      simp only [parseUintM, hd]
      rw [if_pos (by omega), if_neg (by omega), if_neg (by omega)]
      congr 1
      omega
    · have hd := digit_toNat (u % 10) (by omega)
      have := parse_snoc 18446744073709551615 (UInt8.ofNat (48 + u % 10)) (by rw [hd]; omega) (decDigits (u / 10)) 0 (u / 10) (ih (u / 10) (by omega) (by omega)) (by omega) (by rw [hd]; omega)
      rw [this, hd]
      congr 1
      omega

theorem parse_itoa (v : Int) (h0 : -9223372036854775808 ≤ v) (h1 : v ≤ 9223372036854775807) : parseIntB 64 (itoa v) = .ok v := by
  by_cases hn : v < 0
  · obtain ⟨u, rfl⟩ : ∃ u : Nat, v = -(u : Int) := ⟨v.natAbs, by omega⟩
    rw [itoa_neg u (by omega)]
    have hp := parse_dec u (by omega)
    have hne := dec_ne u
    simp only [parseIntB, parseUintB]
    have e45 : ((45 : UInt8).toNat = 45) := rfl
    simp only [e45, or_true, if_true, hne, if_false]
    have e64 : (2 ^ 64 - 1 : Nat) = 18446744073709551615 := by decide
    rw [e64, hp]
    have e63 : (2 ^ (64 - 1) : Nat) = 9223372036854775808 := by decide
    simp only [e63, not_true_eq_false, false_and, if_false, true_and]
    rw [if_neg (by omega)]
  · obtain ⟨u, rfl⟩ : ∃ u : Nat, v = (u : Int) := ⟨v.toNat, by omega⟩
    rw [itoa_nonneg u]
    have hp := parse_dec u (by omega)
    have hdg := dec_digits u
    cases hd : decDigits u with
    | nil => exact absurd hd (dec_ne u)
    | cons c r =>
      have hc := hdg c (by rw [hd]; simp)
      rw [hd] at hp
      have e64 : (2 ^ 64 - 1 : Nat) = 18446744073709551615 := by decide
      have e63 : (2 ^ (64 - 1) : Nat) = 9223372036854775808 := by decide
      have n45 : ¬ c.toNat = 45 := by omega
      have n43' : ¬ c.toNat = 43 := by omega
      have hne : ¬ (c :: r = []) := by simp
      simp only [parseIntB, parseUintB, if_false, e64, e63, n45, n43', or_self, hne]
      rw [hp]
      simp only [not_false_eq_true, true_and, false_and, if_false]
      rw [if_neg (by omega)]

end Go.Proofs.YbulkcjhaDoor
