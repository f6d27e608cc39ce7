/-
  The closure 'digits' of (*JSONReader).number.
-/
import Derived.Test.YbulkcjhaDoorRdr
namespace Go.Proofs.YbulkcjhaDoor
open Go.RowKit

theorem But.cell {rb : Nat} {w w' : World} (h : But rb w w') {p : Addr} {v : Value} (hv : w.cell? p = some v) (hp : p.block ≠ rb) : w'.cell? p = some v :=
  (World.cell?_of_block (h.block p.block (World.block_lt_of_cell? w p hv) hp)).trans hv

set_option maxRecDepth 100000 in
set_option maxHeartbeats 1600000 in
theorem digits_any (pb rb g cap : Nat) (bs : List UInt8) (i j : Nat) (w : World) (h : Rdr rb g cap bs i w) (hp : w.cell? ⟨pb, 0, none⟩ = some (.pointer (some ⟨rb, 0, none⟩))) (hpb : pb ≠ rb) (hij : i ≤ j) (hjl : j ≤ bs.length)
    (hdg : ∀ k, i ≤ k → k < j → 48 ≤ at' bs k ∧ at' bs k ≤ 57) (hst : j < bs.length → at' bs j < 48) :
    Calls Ybad.prog 15 #[.pointer (some ⟨pb, 0, none⟩)] w fun e w' => e = .returned (.int .i64 ((j - i : Nat) : Int)) ∧ Rdr rb g cap bs j w' ∧ But rb w w' := by
  have hlen := h.len
  have HW : Hid _ := hdg
  have HS : Hid _ := hst
  have HP : Hid _ := hp
  clear hdg hst hp
  go_enter Ybad.func15, Ybad.ntmps15
  go_wp2_with fail
  go_loopg [2] (j - i) (fun n r wr => ∃ k, i ≤ k ∧ k ≤ j ∧ n = j - k ∧ r = .int .i64 ((k - i : Nat) : Int) ∧ Rdr rb g cap bs k wr ∧ But rb w wr)
  case atStart => exact ⟨i, Nat.le_refl _, hij, rfl, by simp, h, But.refl _ _⟩
  case round =>
    clear h
    obtain ⟨k, hik, hkj, rfl, rfl, hr, hb⟩ := hrel
    have c0 := hr.c0
    have c1 := hr.c1
    have f1 := hr.free 1
    have cp := hb.cell HP.out (by exact hpb)
    by_cases hkl : k < bs.length
    · have cb := hr.row k hkl
      have k0 : (0 : Int) ≤ (k : Int) := Int.natCast_nonneg _
      have k1 : (k : Int) < (bs.length : Int) := by omega
      have hbd := at_bd bs k
      by_cases hkj' : k < j
      · obtain ⟨q1, q2⟩ := HW.out k hik hkj'
        go_wp2_with fail
        go_quiet (fail)
        go_wp2_with fail
        go_roundg (j - (k + 1))
        case measure => omega
        case rel => exact ⟨k + 1, by omega, by omega, rfl, by rw [show k + 1 - i = (k - i) + 1 by omega]; go_num, (hr.drewN _).moved (k + 1) (by omega) _ (by omega), (hb.drewN _).setCell _ _⟩
      · have hkj2 : k = j := by omega
        subst hkj2
        have q1 := HS.out hkl
        have q2 : decide (48 ≤ at' bs k) = false := by simp; omega
        go_wp2_with fail
        go_quiet (fail)
        go_wp2_with fail
        go_ret
        exact ⟨rfl, hr.drewN _, hb.drewN _⟩
    · have hkj2 : k = j := by omega
      subst hkj2
      have k1 : decide ((k : Int) < (bs.length : Int)) = false := by simp; omega
      go_wp2_with fail
      go_quiet (fail)
      go_wp2_with fail
      go_ret
      exact ⟨rfl, hr.drewN _, hb.drewN _⟩
end Go.Proofs.YbulkcjhaDoor
