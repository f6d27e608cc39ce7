/-
  No cell of these rows narrows 'for every input' (looked for: loops, veiled, ifaces, maps, wideKeys, modest, calm, conditions, laid).
  DERIVED. THE GIVEN ROWS OF THIS SEAT. 2 by the template 'for every input the law returns true; each argument reads behind the call as it read before'; 0 by the template 'total and deterministic' (their statements: YbulkcjhaTotals.lean).
  GIVEN WITH THE SEED: the statements are not yours to turn. If you find one false, say at which input.
  Laid BY PROGRAM, IN A SANDBOX (cutbox-rows.mjs): the forced cells as the released guide's own fill.sh prints them over the translation 21aef37fc418b416… (all of the seat's roots in one cut). By AI agents, Wed Nov 11 2026. No macro, syntax, notation, axiom, sorry.
-/
import Derived.Test.YbulkcjhaChecked
import GoSem.Claim
import GoSem.ClaimJoined
import GoSem.ClaimMapViews
import Derived.JoinedTies
import Derived.KernelRfl
namespace Go.Proofs.Ybulkcjha
/- THE CELL 'sum', in the pinned program and in every row, IS THE sha256 OF THE DUMP (.gsa) THAT YbulkcjhaProg.lean LOADS. Nothing in Lean hashes anything: it is a label: what it is worth is what the hold of that sum in a sandbox is worth. -/
noncomputable def Yba.pinned : Pinned := { name := "ybulkcjha", sum := "21aef37fc418b416453f71c6b2abdba4e4bd865c2c87cfb1d3b0cc094a802e23", checked := Yba.checked }
namespace Rows
def none {H : Type} : Left H := { results := [], args := [] }

/-- 'filter.LawS4264BFirstTrue': WHATEVER THE INPUT: true; the input reads as it did. -/
def lawS4264BFirstTrueSpec : ChangeSpec := { name := "lawS4264BFirstTrue", fn := fun _ => fun
  | [d1, d2] => { results := [.lit (.bool true)], args := [d1, d2] }
  | _ => none }
def lawS4264BFirstTrueRow : OpenClaim := { program := "ybulkcjha", sum := "21aef37fc418b416453f71c6b2abdba4e4bd865c2c87cfb1d3b0cc094a802e23", func := "example.com/stocklane/stocklane/internal/filter.LawS4264BFirstTrue", spec := "lawS4264BFirstTrue", unfollowed := true, recurses := true, apart := false }
def LawS4264BFirstTrueSaid : Prop := lawS4264BFirstTrueRow.holds Yba.pinned (OpenSpec.ofChange lawS4264BFirstTrueSpec)

/-- ITS FALSE NEIGHBOUR: 'it returns false'. Refute it at one input. -/
def lawS4264BFirstTrueWrong : ChangeSpec := { name := "lawS4264BFirstTrue", fn := fun _ => fun
  | [d1, d2] => { results := [.lit (.bool false)], args := [d1, d2] }
  | _ => none }
def LawS4264BFirstTrueWrongFalsely : Prop := lawS4264BFirstTrueRow.holds Yba.pinned (OpenSpec.ofChange lawS4264BFirstTrueWrong)

/-- 'filter.LawS4264BFilter': WHATEVER THE INPUT: true; the input reads as it did. -/
def lawS4264BFilterSpec : ChangeSpec := { name := "lawS4264BFilter", fn := fun _ => fun
  | [d] => { results := [.lit (.bool true)], args := [d] }
  | _ => none }
def lawS4264BFilterRow : OpenClaim := { program := "ybulkcjha", sum := "21aef37fc418b416453f71c6b2abdba4e4bd865c2c87cfb1d3b0cc094a802e23", func := "example.com/stocklane/stocklane/internal/filter.LawS4264BFilter", spec := "lawS4264BFilter", unfollowed := true, recurses := true, apart := false }
def LawS4264BFilterSaid : Prop := lawS4264BFilterRow.holds Yba.pinned (OpenSpec.ofChange lawS4264BFilterSpec)

/-- ITS FALSE NEIGHBOUR: 'it returns false'. Refute it at one input. -/
def lawS4264BFilterWrong : ChangeSpec := { name := "lawS4264BFilter", fn := fun _ => fun
  | [d] => { results := [.lit (.bool false)], args := [d] }
  | _ => none }
def LawS4264BFilterWrongFalsely : Prop := lawS4264BFilterRow.holds Yba.pinned (OpenSpec.ofChange lawS4264BFilterWrong)

end Rows
end Go.Proofs.Ybulkcjha
