/-
  No cell of these rows narrows 'for every input' (looked for: loops, veiled, ifaces, maps, wideKeys, modest, calm, conditions, laid).
  DERIVED. THE GIVEN ROWS OF THIS SEAT. 2 by the template 'for every input the law returns true; each argument reads behind the call as it read before'; 0 by the template 'total and deterministic' (their statements: YbulkbrwsTotals.lean).
  GIVEN WITH THE SEED: the statements are not yours to turn. If you find one false, say at which input.
  Laid BY PROGRAM, IN A SANDBOX (cutbox-rows.mjs): the forced cells as the released guide's own fill.sh prints them over the translation da4610e7698e2553… (all of the seat's roots in one cut). By AI agents, Wed Nov 11 2026. No macro, syntax, notation, axiom, sorry.
-/
import Derived.Test.YbulkbrwsChecked
import GoSem.Claim
import GoSem.ClaimJoined
import GoSem.ClaimMapViews
import Derived.JoinedTies
import Derived.KernelRfl
namespace Go.Proofs.Ybulkbrws
/- THE CELL 'sum', in the pinned program and in every row, IS THE sha256 OF THE DUMP (.gsa) THAT YbulkbrwsProg.lean LOADS. Nothing in Lean hashes anything: it is a label: what it is worth is what the hold of that sum in a sandbox is worth. -/
noncomputable def Yba.pinned : Pinned := { name := "ybulkbrws", sum := "da4610e7698e25531355827b9b6e1f72b97881d2b27a6392c67d83c5c3487386", checked := Yba.checked }
namespace Rows
def none {H : Type} : Left H := { results := [], args := [] }

/-- 'relay.LawS3424CMember': WHATEVER THE INPUT: true; the input reads as it did. -/
def lawS3424CMemberSpec : ChangeSpec := { name := "lawS3424CMember", fn := fun _ => fun
  | [d] => { results := [.lit (.bool true)], args := [d] }
  | _ => none }
def lawS3424CMemberRow : OpenClaim := { program := "ybulkbrws", sum := "da4610e7698e25531355827b9b6e1f72b97881d2b27a6392c67d83c5c3487386", func := "example.com/handfast/handfast/relay.LawS3424CMember", spec := "lawS3424CMember", apart := false }
def LawS3424CMemberSaid : Prop := lawS3424CMemberRow.holds Yba.pinned (OpenSpec.ofChange lawS3424CMemberSpec)

/-- ITS FALSE NEIGHBOUR: 'it returns false'. Refute it at one input. -/
def lawS3424CMemberWrong : ChangeSpec := { name := "lawS3424CMember", fn := fun _ => fun
  | [d] => { results := [.lit (.bool false)], args := [d] }
  | _ => none }
def LawS3424CMemberWrongFalsely : Prop := lawS3424CMemberRow.holds Yba.pinned (OpenSpec.ofChange lawS3424CMemberWrong)

/-- 'relay.LawS3424CGive': WHATEVER THE INPUT: true; the input reads as it did. -/
def lawS3424CGiveSpec : ChangeSpec := { name := "lawS3424CGive", fn := fun _ => fun
  | [d] => { results := [.lit (.bool true)], args := [d] }
  | _ => none }
def lawS3424CGiveRow : OpenClaim := { program := "ybulkbrws", sum := "da4610e7698e25531355827b9b6e1f72b97881d2b27a6392c67d83c5c3487386", func := "example.com/handfast/handfast/relay.LawS3424CGive", spec := "lawS3424CGive", apart := false }
def LawS3424CGiveSaid : Prop := lawS3424CGiveRow.holds Yba.pinned (OpenSpec.ofChange lawS3424CGiveSpec)

/-- ITS FALSE NEIGHBOUR: 'it returns false'. Refute it at one input. -/
def lawS3424CGiveWrong : ChangeSpec := { name := "lawS3424CGive", fn := fun _ => fun
  | [d] => { results := [.lit (.bool false)], args := [d] }
  | _ => none }
def LawS3424CGiveWrongFalsely : Prop := lawS3424CGiveRow.holds Yba.pinned (OpenSpec.ofChange lawS3424CGiveWrong)

end Rows
end Go.Proofs.Ybulkbrws
