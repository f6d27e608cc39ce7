/-
  No cell of these rows narrows 'for every input' (looked for: loops, veiled, ifaces, maps, wideKeys, modest, calm, conditions, laid).
  DERIVED. THE GIVEN ROWS OF THIS SEAT. 2 by the template 'for every input the law returns true; each argument reads behind the call as it read before'; 0 by the template 'total and deterministic' (their statements: YbulkcjkuTotals.lean).
  GIVEN WITH THE SEED: the statements are not yours to turn. If you find one false, say at which input.
  Laid BY PROGRAM, IN A SANDBOX (cutbox-rows.mjs): the forced cells as the released guide's own fill.sh prints them over the translation 77c09e388e7308b9… (all of the seat's roots in one cut). By AI agents, Wed Nov 11 2026. No macro, syntax, notation, axiom, sorry.
-/
import Derived.Test.YbulkcjkuChecked
import GoSem.Claim
import GoSem.ClaimJoined
import GoSem.ClaimMapViews
import Derived.JoinedTies
import Derived.KernelRfl
namespace Go.Proofs.Ybulkcjku
/- THE CELL 'sum', in the pinned program and in every row, IS THE sha256 OF THE DUMP (.gsa) THAT YbulkcjkuProg.lean LOADS. Nothing in Lean hashes anything: it is a label: what it is worth is what the hold of that sum in a sandbox is worth. -/
noncomputable def Yba.pinned : Pinned := { name := "ybulkcjku", sum := "77c09e388e7308b95c2ad32a3ca6bc7300267df39d230fd9f513f50ce432af1f", checked := Yba.checked }
namespace Rows
def none {H : Type} : Left H := { results := [], args := [] }

/-- 'probe.LawS4271BTable': WHATEVER THE INPUT: true; the input reads as it did. -/
def lawS4271BTableSpec : ChangeSpec := { name := "lawS4271BTable", fn := fun _ => fun
  | [d1, d2] => { results := [.lit (.bool true)], args := [d1, d2] }
  | _ => none }
def lawS4271BTableRow : OpenClaim := { program := "ybulkcjku", sum := "77c09e388e7308b95c2ad32a3ca6bc7300267df39d230fd9f513f50ce432af1f", func := "example.com/quiesce/quiesce/internal/probe.LawS4271BTable", spec := "lawS4271BTable", apart := false }
def LawS4271BTableSaid : Prop := lawS4271BTableRow.holds Yba.pinned (OpenSpec.ofChange lawS4271BTableSpec)

/-- ITS FALSE NEIGHBOUR: 'it returns false'. Refute it at one input. -/
def lawS4271BTableWrong : ChangeSpec := { name := "lawS4271BTable", fn := fun _ => fun
  | [d1, d2] => { results := [.lit (.bool false)], args := [d1, d2] }
  | _ => none }
def LawS4271BTableWrongFalsely : Prop := lawS4271BTableRow.holds Yba.pinned (OpenSpec.ofChange lawS4271BTableWrong)

/-- 'probe.LawS4271BStatus': WHATEVER THE INPUT: true; the input reads as it did. -/
def lawS4271BStatusSpec : ChangeSpec := { name := "lawS4271BStatus", fn := fun _ => fun
  | [d] => { results := [.lit (.bool true)], args := [d] }
  | _ => none }
def lawS4271BStatusRow : OpenClaim := { program := "ybulkcjku", sum := "77c09e388e7308b95c2ad32a3ca6bc7300267df39d230fd9f513f50ce432af1f", func := "example.com/quiesce/quiesce/internal/probe.LawS4271BStatus", spec := "lawS4271BStatus", apart := false }
def LawS4271BStatusSaid : Prop := lawS4271BStatusRow.holds Yba.pinned (OpenSpec.ofChange lawS4271BStatusSpec)

/-- ITS FALSE NEIGHBOUR: 'it returns false'. Refute it at one input. -/
def lawS4271BStatusWrong : ChangeSpec := { name := "lawS4271BStatus", fn := fun _ => fun
  | [d] => { results := [.lit (.bool false)], args := [d] }
  | _ => none }
def LawS4271BStatusWrongFalsely : Prop := lawS4271BStatusRow.holds Yba.pinned (OpenSpec.ofChange lawS4271BStatusWrong)

end Rows
end Go.Proofs.Ybulkcjku
