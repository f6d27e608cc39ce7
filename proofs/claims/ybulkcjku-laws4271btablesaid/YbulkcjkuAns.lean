/-
  answerText: it answers what the table says.
-/
import Derived.Test.YbulkcjkuTab
namespace Go.Proofs.Ybulkcjku
open Go.RowKit

theorem ret2 {a b c d : ByteArray} (h1 : a = c) (h2 : b = d) : Ending.returned (.tuple #[.string a, .string b]) = .returned (.tuple #[.string c, .string d]) := by rw [h1, h2]

theorem none_fit (st : Int) (k : Nat) (hk : k ≤ 9) (h : ∀ i, i < 9 → code i ≠ st) : rTo st k = ⟨#[]⟩ ∧ bTo st k = ⟨#[]⟩ := by
  induction k with
  | zero => exact ⟨rfl, rfl⟩
  | succ n ih =>
    have := ih (by omega)
    have hn := h n (by omega)
    exact ⟨by simp [rTo, hn, this.1], by simp [bTo, hn, this.2]⟩

set_option maxRecDepth 100000 in
set_option maxHeartbeats 1600000 in
theorem answer_any (st : Int) (w : World) : Calls Yba.prog 6 #[.int .i64 st] w fun e w' => e = .returned (.tuple #[.string (rTo st 9), .string (bTo st 9)]) ∧ w' = w := by
  by_cases h : st = 200 ∨ st = 400 ∨ st = 404 ∨ st = 405 ∨ st = 413 ∨ st = 431 ∨ st = 501 ∨ st = 503 ∨ st = 505
  · rcases h with rfl | rfl | rfl | rfl | rfl | rfl | rfl | rfl | rfl
    all_goals
      go_enter Yba.func6, Yba.ntmps6
      go_wp2
      go_ret2
      exact ⟨ret2 (by decide +kernel) (by decide +kernel), rfl⟩
  · have h0 : (st == 200) = false := beq_eq_false_iff_ne.2 (by omega)
    have h1 : (st == 400) = false := beq_eq_false_iff_ne.2 (by omega)
    have h2 : (st == 404) = false := beq_eq_false_iff_ne.2 (by omega)
    have h3 : (st == 405) = false := beq_eq_false_iff_ne.2 (by omega)
    have h4 : (st == 413) = false := beq_eq_false_iff_ne.2 (by omega)
    have h5 : (st == 431) = false := beq_eq_false_iff_ne.2 (by omega)
    have h6 : (st == 501) = false := beq_eq_false_iff_ne.2 (by omega)
    have h7 : (st == 503) = false := beq_eq_false_iff_ne.2 (by omega)
    have h8 : (st == 505) = false := beq_eq_false_iff_ne.2 (by omega)
    have hn : ∀ i, i < 9 → code i ≠ st := fun i hi e => h (by
      match i, hi with
      | 0, _ => left; exact e.symm
      | 1, _ => right; left; exact e.symm
      | 2, _ => right; right; left; exact e.symm
      | 3, _ => right; right; right; left; exact e.symm
      | 4, _ => right; right; right; right; left; exact e.symm
      | 5, _ => right; right; right; right; right; left; exact e.symm
      | 6, _ => right; right; right; right; right; right; left; exact e.symm
      | 7, _ => right; right; right; right; right; right; right; left; exact e.symm
      | 8, _ => right; right; right; right; right; right; right; right; exact e.symm)
    obtain ⟨e1, e2⟩ := none_fit st 9 (Nat.le_refl _) hn
    have E : Hid (rTo st 9 = ⟨#[]⟩ ∧ bTo st 9 = ⟨#[]⟩) := ⟨e1, e2⟩
    clear e1 e2 hn h
    go_enter Yba.func6, Yba.ntmps6
    go_wp2
    go_ret2
    exact ⟨ret2 E.out.1.symm E.out.2.symm, rfl⟩

end Go.Proofs.Ybulkcjku
