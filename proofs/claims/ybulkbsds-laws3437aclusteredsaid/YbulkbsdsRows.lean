/-
  No cell of these rows narrows 'for every input' (looked for: loops, veiled, ifaces, maps, wideKeys, modest, calm, conditions, laid).
  DERIVED. THE GIVEN ROWS OF THIS SEAT. 2 by the template 'for every input the law returns true; each argument reads behind the call as it read before'; 0 by the template 'total and deterministic' (their statements: YbulkbsdsTotals.lean).
  GIVEN WITH THE SEED: the statements are not yours to turn. If you find one false, say at which input.
  Laid BY PROGRAM, IN A SANDBOX (cutbox-rows.mjs): the forced cells as the released guide's own fill.sh prints them over the translation 00a89a624c32b8a8… (all of the seat's roots in one cut). By AI agents, Wed Nov 11 2026. No macro, syntax, notation, axiom, sorry.
-/
import Derived.Test.YbulkbsdsChecked
import GoSem.Claim
import GoSem.ClaimJoined
import GoSem.ClaimMapViews
import Derived.JoinedTies
import Derived.KernelRfl
namespace Go.Proofs.Ybulkbsds
/- THE CELL 'sum', in the pinned program and in every row, IS THE sha256 OF THE DUMP (.gsa) THAT YbulkbsdsProg.lean LOADS. Nothing in Lean hashes anything: it is a label: what it is worth is what the hold of that sum in a sandbox is worth. -/
noncomputable def Yba.pinned : Pinned := { name := "ybulkbsds", sum := "00a89a624c32b8a87e9dafb3bdfcba9c26a5251fe65000565bb0bb4cab4d4bd1", checked := Yba.checked }
namespace Rows
def none {H : Type} : Left H := { results := [], args := [] }

/-- 'ogniwo.LawS3437AAll': WHATEVER THE INPUT: true; the input reads as it did. -/
def lawS3437AAllSpec : ChangeSpec := { name := "lawS3437AAll", fn := fun _ => fun
  | [d1, d2, d3, d4] => { results := [.lit (.bool true)], args := [d1, d2, d3, d4] }
  | _ => none }
def lawS3437AAllRow : OpenClaim := { program := "ybulkbsds", sum := "00a89a624c32b8a87e9dafb3bdfcba9c26a5251fe65000565bb0bb4cab4d4bd1", func := "example.com/ogniwo/ogniwo.LawS3437AAll", spec := "lawS3437AAll", unfollowed := true, recurses := true, apart := false }
def LawS3437AAllSaid : Prop := lawS3437AAllRow.holds Yba.pinned (OpenSpec.ofChange lawS3437AAllSpec)

/-- ITS FALSE NEIGHBOUR: 'it returns false'. Refute it at one input. -/
def lawS3437AAllWrong : ChangeSpec := { name := "lawS3437AAll", fn := fun _ => fun
  | [d1, d2, d3, d4] => { results := [.lit (.bool false)], args := [d1, d2, d3, d4] }
  | _ => none }
def LawS3437AAllWrongFalsely : Prop := lawS3437AAllRow.holds Yba.pinned (OpenSpec.ofChange lawS3437AAllWrong)

/-- 'ogniwo.LawS3437AClustered': WHATEVER THE INPUT: true; the input reads as it did. -/
def lawS3437AClusteredSpec : ChangeSpec := { name := "lawS3437AClustered", fn := fun _ => fun
  | [d1, d2, d3, d4, d5] => { results := [.lit (.bool true)], args := [d1, d2, d3, d4, d5] }
  | _ => none }
def lawS3437AClusteredRow : OpenClaim := { program := "ybulkbsds", sum := "00a89a624c32b8a87e9dafb3bdfcba9c26a5251fe65000565bb0bb4cab4d4bd1", func := "example.com/ogniwo/ogniwo.LawS3437AClustered", spec := "lawS3437AClustered", unfollowed := true, recurses := true, apart := false }
def LawS3437AClusteredSaid : Prop := lawS3437AClusteredRow.holds Yba.pinned (OpenSpec.ofChange lawS3437AClusteredSpec)

/-- ITS FALSE NEIGHBOUR: 'it returns false'. Refute it at one input. -/
def lawS3437AClusteredWrong : ChangeSpec := { name := "lawS3437AClustered", fn := fun _ => fun
  | [d1, d2, d3, d4, d5] => { results := [.lit (.bool false)], args := [d1, d2, d3, d4, d5] }
  | _ => none }
def LawS3437AClusteredWrongFalsely : Prop := lawS3437AClusteredRow.holds Yba.pinned (OpenSpec.ofChange lawS3437AClusteredWrong)

end Rows
end Go.Proofs.Ybulkbsds
