/-
  (*JSONReader).End.
-/
import Derived.Test.YbulkcjhaDoorRdr
import Derived.Deep.RegionWith
import Derived.Deep.DrawnRows
namespace Go.Proofs.YbulkcjhaDoor
open Go.RowKit

attribute [local go_sem ↓] Go.wp_at_zero Go.wp_at_succ

set_option maxRecDepth 100000 in
set_option maxHeartbeats 8000000 in
theorem end_any (rb g cap : Nat) (bs : List UInt8) (i : Nat) (w : World) (h : Rdr rb g cap bs i w) (hws : ∀ k, i ≤ k → k < bs.length → isWs (at' bs k)) :
    Calls Ybad.prog 7 #[.pointer (some ⟨rb, 0, none⟩)] w fun e w' => e = .returned (.bool true) ∧ But rb w w' := by
  have HC : Hid (Calls Ybad.prog 11 #[.pointer (some ⟨rb, 0, none⟩)] w.drew fun e w' => e = .returned (.bool false) ∧ Rdr rb g cap bs bs.length w' ∧ But rb w w') :=
    (skip_any rb g cap bs i bs.length w.drew (h.but rfl rfl) h.le (Nat.le_refl _) hws (fun hh => absurd hh (Nat.lt_irrefl _))).mono fun e w' ⟨h1, h2, h3⟩ =>
      ⟨by rw [h1]; simp, h2, ⟨h3.os, h3.tape, h3.output, h3.size, h3.block⟩⟩
  clear hws h
  go_enter Ybad.func7, Ybad.ntmps7
  go_wp2_with fail
  go_region_with ((go_at_call 11; refine HC.out.mono ?_; rintro e w1 ⟨rfl, hr1, hb1⟩; have c0 := hr1.c0; have c1 := hr1.c1; have c2 := hr1.c2))
  all_goals
    go_wp2_with fail
    go_ret
    exact ⟨rfl, hb1⟩
end Go.Proofs.YbulkcjhaDoor
