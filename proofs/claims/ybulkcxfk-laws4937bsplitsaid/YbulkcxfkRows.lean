/-
  No cell of these rows narrows 'for every input' (looked for: loops, veiled, ifaces, maps, wideKeys, modest, calm, conditions, laid).
  DERIVED. THE GIVEN ROWS OF THIS SEAT. 3 by the template 'for every input the law returns true; each argument reads behind the call as it read before'; 0 by the template 'total and deterministic' (their statements: YbulkcxfkTotals.lean).
  GIVEN WITH THE SEED: the statements are not yours to turn. If you find one false, say at which input.
  Laid BY PROGRAM, IN A SANDBOX (cutbox-rows.mjs): the forced cells as the released guide's own fill.sh prints them over the translation 43a002d57620f830… (all of the seat's roots in one cut). By AI agents, Wed Nov 11 2026. No macro, syntax, notation, axiom, sorry.
-/
import Derived.Test.YbulkcxfkChecked
import GoSem.Claim
import GoSem.ClaimJoined
import GoSem.ClaimMapViews
import Derived.JoinedTies
import Derived.KernelRfl
namespace Go.Proofs.Ybulkcxfk
/- THE CELL 'sum', in the pinned program and in every row, IS THE sha256 OF THE DUMP (.gsa) THAT YbulkcxfkProg.lean LOADS. Nothing in Lean hashes anything: it is a label: what it is worth is what the hold of that sum in a sandbox is worth. -/
noncomputable def Yba.pinned : Pinned := { name := "ybulkcxfk", sum := "43a002d57620f8305356343a19f39afc37f1758bbc83b210380e67a8ba98c8cf", checked := Yba.checked }
namespace Rows
def none {H : Type} : Left H := { results := [], args := [] }

/-- 'routine-pool.LawS4937BSplit': WHATEVER THE INPUT: true; the input reads as it did. -/
def lawS4937BSplitSpec : ChangeSpec := { name := "lawS4937BSplit", fn := fun _ => fun
  | [d1, d2] => { results := [.lit (.bool true)], args := [d1, d2] }
  | _ => none }
def lawS4937BSplitRow : OpenClaim := { program := "ybulkcxfk", sum := "43a002d57620f8305356343a19f39afc37f1758bbc83b210380e67a8ba98c8cf", func := "example.com/routine-pool/routine-pool.LawS4937BSplit", spec := "lawS4937BSplit", unfollowed := true, recurses := true, apart := false }
def LawS4937BSplitSaid : Prop := lawS4937BSplitRow.holds Yba.pinned (OpenSpec.ofChange lawS4937BSplitSpec)

/-- ITS FALSE NEIGHBOUR: 'it returns false'. Refute it at one input. -/
def lawS4937BSplitWrong : ChangeSpec := { name := "lawS4937BSplit", fn := fun _ => fun
  | [d1, d2] => { results := [.lit (.bool false)], args := [d1, d2] }
  | _ => none }
def LawS4937BSplitWrongFalsely : Prop := lawS4937BSplitRow.holds Yba.pinned (OpenSpec.ofChange lawS4937BSplitWrong)

/-- 'routine-pool.LawS4937BWakes': WHATEVER THE INPUT: true; the input reads as it did. -/
def lawS4937BWakesSpec : ChangeSpec := { name := "lawS4937BWakes", fn := fun _ => fun
  | [d1, d2] => { results := [.lit (.bool true)], args := [d1, d2] }
  | _ => none }
def lawS4937BWakesRow : OpenClaim := { program := "ybulkcxfk", sum := "43a002d57620f8305356343a19f39afc37f1758bbc83b210380e67a8ba98c8cf", func := "example.com/routine-pool/routine-pool.LawS4937BWakes", spec := "lawS4937BWakes", unfollowed := true, recurses := true, apart := false }
def LawS4937BWakesSaid : Prop := lawS4937BWakesRow.holds Yba.pinned (OpenSpec.ofChange lawS4937BWakesSpec)

/-- ITS FALSE NEIGHBOUR: 'it returns false'. Refute it at one input. -/
def lawS4937BWakesWrong : ChangeSpec := { name := "lawS4937BWakes", fn := fun _ => fun
  | [d1, d2] => { results := [.lit (.bool false)], args := [d1, d2] }
  | _ => none }
def LawS4937BWakesWrongFalsely : Prop := lawS4937BWakesRow.holds Yba.pinned (OpenSpec.ofChange lawS4937BWakesWrong)

/-- 'routine-pool.LawS4937CFifo': WHATEVER THE INPUT: true; the input reads as it did. -/
def lawS4937CFifoSpec : ChangeSpec := { name := "lawS4937CFifo", fn := fun _ => fun
  | [d] => { results := [.lit (.bool true)], args := [d] }
  | _ => none }
def lawS4937CFifoRow : OpenClaim := { program := "ybulkcxfk", sum := "43a002d57620f8305356343a19f39afc37f1758bbc83b210380e67a8ba98c8cf", func := "example.com/routine-pool/routine-pool.LawS4937CFifo", spec := "lawS4937CFifo", apart := false }
def LawS4937CFifoSaid : Prop := lawS4937CFifoRow.holds Yba.pinned (OpenSpec.ofChange lawS4937CFifoSpec)

/-- ITS FALSE NEIGHBOUR: 'it returns false'. Refute it at one input. -/
def lawS4937CFifoWrong : ChangeSpec := { name := "lawS4937CFifo", fn := fun _ => fun
  | [d] => { results := [.lit (.bool false)], args := [d] }
  | _ => none }
def LawS4937CFifoWrongFalsely : Prop := lawS4937CFifoRow.holds Yba.pinned (OpenSpec.ofChange lawS4937CFifoWrong)

end Rows
end Go.Proofs.Ybulkcxfk
