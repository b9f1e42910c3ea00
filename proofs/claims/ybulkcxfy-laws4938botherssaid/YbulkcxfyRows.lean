/-
  No cell of these rows narrows 'for every input' (looked for: loops, veiled, ifaces, maps, wideKeys, modest, calm, conditions, laid).
  DERIVED. THE GIVEN ROWS OF THIS SEAT. 4 by the template 'for every input the law returns true; each argument reads behind the call as it read before'; 0 by the template 'total and deterministic' (their statements: YbulkcxfyTotals.lean).
  GIVEN WITH THE SEED: the statements are not yours to turn. If you find one false, say at which input.
  Laid BY PROGRAM, IN A SANDBOX (cutbox-rows.mjs): the forced cells as the released guide's own fill.sh prints them over the translation 5c4313653e25f9bf… (all of the seat's roots in one cut). By AI agents, Wed Nov 11 2026. No macro, syntax, notation, axiom, sorry.
-/
import Derived.Test.YbulkcxfyChecked
import GoSem.Claim
import GoSem.ClaimJoined
import GoSem.ClaimMapViews
import Derived.JoinedTies
import Derived.KernelRfl
namespace Go.Proofs.Ybulkcxfy
/- THE CELL 'sum', in the pinned program and in every row, IS THE sha256 OF THE DUMP (.gsa) THAT YbulkcxfyProg.lean LOADS. Nothing in Lean hashes anything: it is a label: what it is worth is what the hold of that sum in a sandbox is worth. -/
noncomputable def Yba.pinned : Pinned := { name := "ybulkcxfy", sum := "5c4313653e25f9bfc9e3b7808f6d9e13e2fbc8e4e067e13f1aad60f5299dd9d7", checked := Yba.checked }
namespace Rows
def none {H : Type} : Left H := { results := [], args := [] }

/-- 'server.LawS4938AFills': WHATEVER THE INPUT: true; the input reads as it did. -/
def lawS4938AFillsSpec : ChangeSpec := { name := "lawS4938AFills", fn := fun _ => fun
  | [d1, d2, d3] => { results := [.lit (.bool true)], args := [d1, d2, d3] }
  | _ => none }
def lawS4938AFillsRow : OpenClaim := { program := "ybulkcxfy", sum := "5c4313653e25f9bfc9e3b7808f6d9e13e2fbc8e4e067e13f1aad60f5299dd9d7", func := "example.com/isonomy/isonomy/internal/server.LawS4938AFills", spec := "lawS4938AFills", plainKeys := false, apart := false }
def LawS4938AFillsSaid : Prop := lawS4938AFillsRow.holds Yba.pinned (OpenSpec.ofChange lawS4938AFillsSpec)

/-- ITS FALSE NEIGHBOUR: 'it returns false'. Refute it at one input. -/
def lawS4938AFillsWrong : ChangeSpec := { name := "lawS4938AFills", fn := fun _ => fun
  | [d1, d2, d3] => { results := [.lit (.bool false)], args := [d1, d2, d3] }
  | _ => none }
def LawS4938AFillsWrongFalsely : Prop := lawS4938AFillsRow.holds Yba.pinned (OpenSpec.ofChange lawS4938AFillsWrong)

/-- 'server.LawS4938ANil': WHATEVER THE INPUT: true; the input reads as it did. -/
def lawS4938ANilSpec : ChangeSpec := { name := "lawS4938ANil", fn := fun _ => fun
  | [d] => { results := [.lit (.bool true)], args := [d] }
  | _ => none }
def lawS4938ANilRow : OpenClaim := { program := "ybulkcxfy", sum := "5c4313653e25f9bfc9e3b7808f6d9e13e2fbc8e4e067e13f1aad60f5299dd9d7", func := "example.com/isonomy/isonomy/internal/server.LawS4938ANil", spec := "lawS4938ANil", plainKeys := false, apart := false }
def LawS4938ANilSaid : Prop := lawS4938ANilRow.holds Yba.pinned (OpenSpec.ofChange lawS4938ANilSpec)

/-- ITS FALSE NEIGHBOUR: 'it returns false'. Refute it at one input. -/
def lawS4938ANilWrong : ChangeSpec := { name := "lawS4938ANil", fn := fun _ => fun
  | [d] => { results := [.lit (.bool false)], args := [d] }
  | _ => none }
def LawS4938ANilWrongFalsely : Prop := lawS4938ANilRow.holds Yba.pinned (OpenSpec.ofChange lawS4938ANilWrong)

/-- 'engine.LawS4938BRoutes': WHATEVER THE INPUT: true; the input reads as it did. -/
def lawS4938BRoutesSpec : ChangeSpec := { name := "lawS4938BRoutes", fn := fun _ => fun
  | [d1, d2, d3] => { results := [.lit (.bool true)], args := [d1, d2, d3] }
  | _ => none }
def lawS4938BRoutesRow : OpenClaim := { program := "ybulkcxfy", sum := "5c4313653e25f9bfc9e3b7808f6d9e13e2fbc8e4e067e13f1aad60f5299dd9d7", func := "example.com/isonomy/isonomy/internal/engine.LawS4938BRoutes", spec := "lawS4938BRoutes", plainKeys := false, apart := false }
def LawS4938BRoutesSaid : Prop := lawS4938BRoutesRow.holds Yba.pinned (OpenSpec.ofChange lawS4938BRoutesSpec)

/-- ITS FALSE NEIGHBOUR: 'it returns false'. Refute it at one input. -/
def lawS4938BRoutesWrong : ChangeSpec := { name := "lawS4938BRoutes", fn := fun _ => fun
  | [d1, d2, d3] => { results := [.lit (.bool false)], args := [d1, d2, d3] }
  | _ => none }
def LawS4938BRoutesWrongFalsely : Prop := lawS4938BRoutesRow.holds Yba.pinned (OpenSpec.ofChange lawS4938BRoutesWrong)

/-- 'engine.LawS4938BOthers': WHATEVER THE INPUT: true; the input reads as it did. -/
def lawS4938BOthersSpec : ChangeSpec := { name := "lawS4938BOthers", fn := fun _ => fun
  | [d1, d2] => { results := [.lit (.bool true)], args := [d1, d2] }
  | _ => none }
def lawS4938BOthersRow : OpenClaim := { program := "ybulkcxfy", sum := "5c4313653e25f9bfc9e3b7808f6d9e13e2fbc8e4e067e13f1aad60f5299dd9d7", func := "example.com/isonomy/isonomy/internal/engine.LawS4938BOthers", spec := "lawS4938BOthers", plainKeys := false, apart := false }
def LawS4938BOthersSaid : Prop := lawS4938BOthersRow.holds Yba.pinned (OpenSpec.ofChange lawS4938BOthersSpec)

/-- ITS FALSE NEIGHBOUR: 'it returns false'. Refute it at one input. -/
def lawS4938BOthersWrong : ChangeSpec := { name := "lawS4938BOthers", fn := fun _ => fun
  | [d1, d2] => { results := [.lit (.bool false)], args := [d1, d2] }
  | _ => none }
def LawS4938BOthersWrongFalsely : Prop := lawS4938BOthersRow.holds Yba.pinned (OpenSpec.ofChange lawS4938BOthersWrong)

end Rows
end Go.Proofs.Ybulkcxfy
