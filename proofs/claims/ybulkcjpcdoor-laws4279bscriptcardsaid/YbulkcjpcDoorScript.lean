/-
  LawS4279BScript: the whole.
-/
import Derived.Test.YbulkcjpcDoorArmA
import Derived.Test.YbulkcjpcDoorArmB
import Derived.Test.YbulkcjpcDoorArmC
import Derived.Test.YbulkcjpcDoorArmD
import Derived.Test.YbulkcjpcDoorArmE
namespace Go.Proofs.YbulkcjpcDoor
open Go.RowKit
set_option maxRecDepth 100000

theorem script_long (p : Option Addr) (n k : Nat) (w : World) (hn : 300 < n) :
    Calls Ybad.prog 3 #[.slice p n k] w fun e w' => e = .returned (.bool true) ∧ Below w.heap.size w w' := by
  have hn' : (300 : Int) < (n : Int) := by omega
  go_enter Ybad.func3, Ybad.ntmps3
  go_wp2_with fail
  go_ret
  exact ⟨rfl, Below.refl _ _⟩

theorem script_any (p : Option Addr) (n k : Nat) (ss : List St) (w : World) (hl : ss.length = n) (hn : n ≤ 300) (hr : 0 < n → ∃ g o, p = some ⟨g, o, none⟩ ∧ Steps w g o ss) (hbd : ∀ s, s ∈ ss → StBd s) (hg : Glob w) :
    Calls Ybad.prog 3 #[.slice p n k] w fun e w' => e = .returned (.bool true) ∧ Below w.heap.size w w' := by
  refine rounds.2.2 p n k ss w hl hn hr hbd hg (fun c => ?_) armE
  by_cases c0 : c = 0
  · subst c0; exact arm0
  by_cases c1 : c = 1
  · subst c1; exact arm1
  by_cases c2 : c = 2
  · subst c2; exact arm2
  by_cases c3 : c = 3
  · subst c3; exact arm3
  by_cases c4 : c = 4
  · subst c4; exact arm4
  by_cases c5 : c = 5
  · subst c5; exact arm5
  exact arm6 c c0 c1 c2 c3 c4 c5

end Go.Proofs.YbulkcjpcDoor
