/-
  No cell of these rows narrows 'for every input' (looked for: loops, veiled, ifaces, maps, wideKeys, modest, calm, conditions, laid).
  DERIVED. THE GIVEN ROWS OF THIS SEAT. 2 by the template 'for every input the law returns true; each argument reads behind the call as it read before'; 0 by the template 'total and deterministic' (their statements: YbulkcxhaTotals.lean).
  GIVEN WITH THE SEED: the statements are not yours to turn. If you find one false, say at which input.
  Laid BY PROGRAM, IN A SANDBOX (cutbox-rows.mjs): the forced cells as the released guide's own fill.sh prints them over the translation 5add111722653b39… (all of the seat's roots in one cut). By AI agents, Wed Nov 11 2026. No macro, syntax, notation, axiom, sorry.
-/
import Derived.Test.YbulkcxhaChecked
import GoSem.Claim
import GoSem.ClaimJoined
import GoSem.ClaimMapViews
import Derived.JoinedTies
import Derived.KernelRfl
namespace Go.Proofs.Ybulkcxha
/- THE CELL 'sum', in the pinned program and in every row, IS THE sha256 OF THE DUMP (.gsa) THAT YbulkcxhaProg.lean LOADS. Nothing in Lean hashes anything: it is a label: what it is worth is what the hold of that sum in a sandbox is worth. -/
noncomputable def Yba.pinned : Pinned := { name := "ybulkcxha", sum := "5add111722653b39b2a74d5ee82bb1a49ab64706e9fc3d97af7a4defe77b9c99", checked := Yba.checked }
namespace Rows
def none {H : Type} : Left H := { results := [], args := [] }

/-- 'index.LawS4940BShape': WHATEVER THE INPUT: true; the input reads as it did. -/
def lawS4940BShapeSpec : ChangeSpec := { name := "lawS4940BShape", fn := fun _ => fun
  | [d1, d2] => { results := [.lit (.bool true)], args := [d1, d2] }
  | _ => none }
def lawS4940BShapeRow : OpenClaim := { program := "ybulkcxha", sum := "5add111722653b39b2a74d5ee82bb1a49ab64706e9fc3d97af7a4defe77b9c99", func := "example.com/gleaner/gleaner/index.LawS4940BShape", spec := "lawS4940BShape", unfollowed := true, recurses := true, apart := false }
def LawS4940BShapeSaid : Prop := lawS4940BShapeRow.holds Yba.pinned (OpenSpec.ofChange lawS4940BShapeSpec)

/-- ITS FALSE NEIGHBOUR: 'it returns false'. Refute it at one input. -/
def lawS4940BShapeWrong : ChangeSpec := { name := "lawS4940BShape", fn := fun _ => fun
  | [d1, d2] => { results := [.lit (.bool false)], args := [d1, d2] }
  | _ => none }
def LawS4940BShapeWrongFalsely : Prop := lawS4940BShapeRow.holds Yba.pinned (OpenSpec.ofChange lawS4940BShapeWrong)

/-- 'index.LawS4940BIDs': WHATEVER THE INPUT: true; the input reads as it did. -/
def lawS4940BIDsSpec : ChangeSpec := { name := "lawS4940BIDs", fn := fun _ => fun
  | [d1, d2, d3] => { results := [.lit (.bool true)], args := [d1, d2, d3] }
  | _ => none }
def lawS4940BIDsRow : OpenClaim := { program := "ybulkcxha", sum := "5add111722653b39b2a74d5ee82bb1a49ab64706e9fc3d97af7a4defe77b9c99", func := "example.com/gleaner/gleaner/index.LawS4940BIDs", spec := "lawS4940BIDs", unfollowed := true, recurses := true, apart := false }
def LawS4940BIDsSaid : Prop := lawS4940BIDsRow.holds Yba.pinned (OpenSpec.ofChange lawS4940BIDsSpec)

/-- ITS FALSE NEIGHBOUR: 'it returns false'. Refute it at one input. -/
def lawS4940BIDsWrong : ChangeSpec := { name := "lawS4940BIDs", fn := fun _ => fun
  | [d1, d2, d3] => { results := [.lit (.bool false)], args := [d1, d2, d3] }
  | _ => none }
def LawS4940BIDsWrongFalsely : Prop := lawS4940BIDsRow.holds Yba.pinned (OpenSpec.ofChange lawS4940BIDsWrong)

end Rows
end Go.Proofs.Ybulkcxha
