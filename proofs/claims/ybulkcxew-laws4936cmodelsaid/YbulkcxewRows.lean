/-
  No cell of these rows narrows 'for every input' (looked for: loops, veiled, ifaces, maps, wideKeys, modest, calm, conditions, laid).
  DERIVED. THE GIVEN ROWS OF THIS SEAT. 1 by the template 'for every input the law returns true; each argument reads behind the call as it read before'; 0 by the template 'total and deterministic' (their statements: YbulkcxewTotals.lean).
  GIVEN WITH THE SEED: the statements are not yours to turn. If you find one false, say at which input.
  Laid BY PROGRAM, IN A SANDBOX (cutbox-rows.mjs): the forced cells as the released guide's own fill.sh prints them over the translation df90ef3bca75a178… (all of the seat's roots in one cut). By AI agents, Wed Nov 11 2026. No macro, syntax, notation, axiom, sorry.
-/
import Derived.Test.YbulkcxewChecked
import GoSem.Claim
import GoSem.ClaimJoined
import GoSem.ClaimMapViews
import Derived.JoinedTies
import Derived.KernelRfl
namespace Go.Proofs.Ybulkcxew
/- THE CELL 'sum', in the pinned program and in every row, IS THE sha256 OF THE DUMP (.gsa) THAT YbulkcxewProg.lean LOADS. Nothing in Lean hashes anything: it is a label: what it is worth is what the hold of that sum in a sandbox is worth. -/
noncomputable def Yba.pinned : Pinned := { name := "ybulkcxew", sum := "df90ef3bca75a178a4e1314cee2a52b7dcfa507dc99cac3d347bf510ec167b11", checked := Yba.checked }
namespace Rows
def none {H : Type} : Left H := { results := [], args := [] }

/-- 'nearfield.LawS4936CModel': WHATEVER THE INPUT: true; the input reads as it did. -/
def lawS4936CModelSpec : ChangeSpec := { name := "lawS4936CModel", fn := fun _ => fun
  | [d1, d2, d3] => { results := [.lit (.bool true)], args := [d1, d2, d3] }
  | _ => none }
def lawS4936CModelRow : OpenClaim := { program := "ybulkcxew", sum := "df90ef3bca75a178a4e1314cee2a52b7dcfa507dc99cac3d347bf510ec167b11", func := "example.com/nearfield/nearfield.LawS4936CModel", spec := "lawS4936CModel", unfollowed := true, recurses := true, apart := false }
def LawS4936CModelSaid : Prop := lawS4936CModelRow.holds Yba.pinned (OpenSpec.ofChange lawS4936CModelSpec)

/-- ITS FALSE NEIGHBOUR: 'it returns false'. Refute it at one input. -/
def lawS4936CModelWrong : ChangeSpec := { name := "lawS4936CModel", fn := fun _ => fun
  | [d1, d2, d3] => { results := [.lit (.bool false)], args := [d1, d2, d3] }
  | _ => none }
def LawS4936CModelWrongFalsely : Prop := lawS4936CModelRow.holds Yba.pinned (OpenSpec.ofChange lawS4936CModelWrong)

end Rows
end Go.Proofs.Ybulkcxew
