/-
  No cell of these rows narrows 'for every input' (looked for: loops, veiled, ifaces, maps, wideKeys, modest, calm, conditions, laid).
  DERIVED. THE GIVEN ROWS OF THIS SEAT. 2 by the template 'for every input the law returns true; each argument reads behind the call as it read before'; 0 by the template 'total and deterministic' (their statements: YbulkbrvcTotals.lean).
  GIVEN WITH THE SEED: the statements are not yours to turn. If you find one false, say at which input.
  Laid BY PROGRAM, IN A SANDBOX (cutbox-rows.mjs): the forced cells as the released guide's own fill.sh prints them over the translation 69ff27d42edf7583… (all of the seat's roots in one cut). By AI agents, Wed Nov 11 2026. No macro, syntax, notation, axiom, sorry.
-/
import Derived.Test.YbulkbrvcChecked
import GoSem.Claim
import GoSem.ClaimJoined
import GoSem.ClaimMapViews
import Derived.JoinedTies
import Derived.KernelRfl
namespace Go.Proofs.Ybulkbrvc
/- THE CELL 'sum', in the pinned program and in every row, IS THE sha256 OF THE DUMP (.gsa) THAT YbulkbrvcProg.lean LOADS. Nothing in Lean hashes anything: it is a label: what it is worth is what the hold of that sum in a sandbox is worth. -/
noncomputable def Yba.pinned : Pinned := { name := "ybulkbrvc", sum := "69ff27d42edf7583421c20e70c2b08caaff82ddb218ce6893893e957236dd5de", checked := Yba.checked }
namespace Rows
def none {H : Type} : Left H := { results := [], args := [] }

/-- 'quorum.LawS3421CModel': WHATEVER THE INPUT: true; the input reads as it did. -/
def lawS3421CModelSpec : ChangeSpec := { name := "lawS3421CModel", fn := fun _ => fun
  | [d] => { results := [.lit (.bool true)], args := [d] }
  | _ => none }
def lawS3421CModelRow : OpenClaim := { program := "ybulkbrvc", sum := "69ff27d42edf7583421c20e70c2b08caaff82ddb218ce6893893e957236dd5de", func := "example.com/quorum-latch/quorum-latch/internal/quorum.LawS3421CModel", spec := "lawS3421CModel", plainKeys := false, apart := false }
def LawS3421CModelSaid : Prop := lawS3421CModelRow.holds Yba.pinned (OpenSpec.ofChange lawS3421CModelSpec)

/-- ITS FALSE NEIGHBOUR: 'it returns false'. Refute it at one input. -/
def lawS3421CModelWrong : ChangeSpec := { name := "lawS3421CModel", fn := fun _ => fun
  | [d] => { results := [.lit (.bool false)], args := [d] }
  | _ => none }
def LawS3421CModelWrongFalsely : Prop := lawS3421CModelRow.holds Yba.pinned (OpenSpec.ofChange lawS3421CModelWrong)

/-- 'quorum.LawS3421CBound': WHATEVER THE INPUT: true; the input reads as it did. -/
def lawS3421CBoundSpec : ChangeSpec := { name := "lawS3421CBound", fn := fun _ => fun
  | [d1, d2] => { results := [.lit (.bool true)], args := [d1, d2] }
  | _ => none }
def lawS3421CBoundRow : OpenClaim := { program := "ybulkbrvc", sum := "69ff27d42edf7583421c20e70c2b08caaff82ddb218ce6893893e957236dd5de", func := "example.com/quorum-latch/quorum-latch/internal/quorum.LawS3421CBound", spec := "lawS3421CBound", plainKeys := false, apart := false }
def LawS3421CBoundSaid : Prop := lawS3421CBoundRow.holds Yba.pinned (OpenSpec.ofChange lawS3421CBoundSpec)

/-- ITS FALSE NEIGHBOUR: 'it returns false'. Refute it at one input. -/
def lawS3421CBoundWrong : ChangeSpec := { name := "lawS3421CBound", fn := fun _ => fun
  | [d1, d2] => { results := [.lit (.bool false)], args := [d1, d2] }
  | _ => none }
def LawS3421CBoundWrongFalsely : Prop := lawS3421CBoundRow.holds Yba.pinned (OpenSpec.ofChange lawS3421CBoundWrong)

end Rows
end Go.Proofs.Ybulkbrvc
