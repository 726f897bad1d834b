/-
  No cell of these rows narrows 'for every input' (looked for: loops, veiled, ifaces, maps, wideKeys, modest, calm, conditions, laid).
  DERIVED. THE GIVEN ROWS OF THIS SEAT. 4 by the template 'for every input the law returns true; each argument reads behind the call as it read before'; 0 by the template 'total and deterministic' (their statements: YbulkcpqiTotals.lean).
  GIVEN WITH THE SEED: the statements are not yours to turn. If you find one false, say at which input.
  Laid BY PROGRAM, IN A SANDBOX (cutbox-rows.mjs): the forced cells as the released guide's own fill.sh prints them over the translation 280febca85929920… (all of the seat's roots in one cut). By AI agents, Wed Nov 11 2026. No macro, syntax, notation, axiom, sorry.
-/
import Derived.Test.YbulkcpqiChecked
import GoSem.Claim
import GoSem.ClaimJoined
import GoSem.ClaimMapViews
import Derived.JoinedTies
import Derived.KernelRfl
namespace Go.Proofs.Ybulkcpqi
/- THE CELL 'sum', in the pinned program and in every row, IS THE sha256 OF THE DUMP (.gsa) THAT YbulkcpqiProg.lean LOADS. Nothing in Lean hashes anything: it is a label: what it is worth is what the hold of that sum in a sandbox is worth. -/
noncomputable def Yba.pinned : Pinned := { name := "ybulkcpqi", sum := "280febca85929920b447bea6d7e600bca370fda710a6c005a544658947dc7a4e", checked := Yba.checked }
namespace Rows
def none {H : Type} : Left H := { results := [], args := [] }

/-- 'mariposa.LawS4571ACeil': WHATEVER THE INPUT: true; the input reads as it did. -/
def lawS4571ACeilSpec : ChangeSpec := { name := "lawS4571ACeil", fn := fun _ => fun
  | [d1, d2, d3] => { results := [.lit (.bool true)], args := [d1, d2, d3] }
  | _ => none }
def lawS4571ACeilRow : OpenClaim := { program := "ybulkcpqi", sum := "280febca85929920b447bea6d7e600bca370fda710a6c005a544658947dc7a4e", func := "example.com/hopweave/hopweave/mariposa.LawS4571ACeil", spec := "lawS4571ACeil", named := ["math/bits.divideError", "math/bits.overflowError"], apart := false }
def LawS4571ACeilSaid : Prop := lawS4571ACeilRow.holds Yba.pinned (OpenSpec.ofChange lawS4571ACeilSpec)

/-- ITS FALSE NEIGHBOUR: 'it returns false'. Refute it at one input. -/
def lawS4571ACeilWrong : ChangeSpec := { name := "lawS4571ACeil", fn := fun _ => fun
  | [d1, d2, d3] => { results := [.lit (.bool false)], args := [d1, d2, d3] }
  | _ => none }
def LawS4571ACeilWrongFalsely : Prop := lawS4571ACeilRow.holds Yba.pinned (OpenSpec.ofChange lawS4571ACeilWrong)

/-- 'mariposa.LawS4571AEnds': WHATEVER THE INPUT: true; the input reads as it did. -/
def lawS4571AEndsSpec : ChangeSpec := { name := "lawS4571AEnds", fn := fun _ => fun
  | [d1, d2] => { results := [.lit (.bool true)], args := [d1, d2] }
  | _ => none }
def lawS4571AEndsRow : OpenClaim := { program := "ybulkcpqi", sum := "280febca85929920b447bea6d7e600bca370fda710a6c005a544658947dc7a4e", func := "example.com/hopweave/hopweave/mariposa.LawS4571AEnds", spec := "lawS4571AEnds", named := ["math/bits.divideError", "math/bits.overflowError"], apart := false }
def LawS4571AEndsSaid : Prop := lawS4571AEndsRow.holds Yba.pinned (OpenSpec.ofChange lawS4571AEndsSpec)

/-- ITS FALSE NEIGHBOUR: 'it returns false'. Refute it at one input. -/
def lawS4571AEndsWrong : ChangeSpec := { name := "lawS4571AEnds", fn := fun _ => fun
  | [d1, d2] => { results := [.lit (.bool false)], args := [d1, d2] }
  | _ => none }
def LawS4571AEndsWrongFalsely : Prop := lawS4571AEndsRow.holds Yba.pinned (OpenSpec.ofChange lawS4571AEndsWrong)

/-- 'mariposa.LawS4571CPlaced': WHATEVER THE INPUT: true; the input reads as it did. -/
def lawS4571CPlacedSpec : ChangeSpec := { name := "lawS4571CPlaced", fn := fun _ => fun
  | [d1, d2, d3] => { results := [.lit (.bool true)], args := [d1, d2, d3] }
  | _ => none }
def lawS4571CPlacedRow : OpenClaim := { program := "ybulkcpqi", sum := "280febca85929920b447bea6d7e600bca370fda710a6c005a544658947dc7a4e", func := "example.com/hopweave/hopweave/mariposa.LawS4571CPlaced", spec := "lawS4571CPlaced", named := ["math/bits.divideError", "math/bits.overflowError"], apart := false }
def LawS4571CPlacedSaid : Prop := lawS4571CPlacedRow.holds Yba.pinned (OpenSpec.ofChange lawS4571CPlacedSpec)

/-- ITS FALSE NEIGHBOUR: 'it returns false'. Refute it at one input. -/
def lawS4571CPlacedWrong : ChangeSpec := { name := "lawS4571CPlaced", fn := fun _ => fun
  | [d1, d2, d3] => { results := [.lit (.bool false)], args := [d1, d2, d3] }
  | _ => none }
def LawS4571CPlacedWrongFalsely : Prop := lawS4571CPlacedRow.holds Yba.pinned (OpenSpec.ofChange lawS4571CPlacedWrong)

/-- 'mariposa.LawS4571CEven': WHATEVER THE INPUT: true; the input reads as it did. -/
def lawS4571CEvenSpec : ChangeSpec := { name := "lawS4571CEven", fn := fun _ => fun
  | [d1, d2] => { results := [.lit (.bool true)], args := [d1, d2] }
  | _ => none }
def lawS4571CEvenRow : OpenClaim := { program := "ybulkcpqi", sum := "280febca85929920b447bea6d7e600bca370fda710a6c005a544658947dc7a4e", func := "example.com/hopweave/hopweave/mariposa.LawS4571CEven", spec := "lawS4571CEven", named := ["math/bits.divideError", "math/bits.overflowError"], apart := false }
def LawS4571CEvenSaid : Prop := lawS4571CEvenRow.holds Yba.pinned (OpenSpec.ofChange lawS4571CEvenSpec)

/-- ITS FALSE NEIGHBOUR: 'it returns false'. Refute it at one input. -/
def lawS4571CEvenWrong : ChangeSpec := { name := "lawS4571CEven", fn := fun _ => fun
  | [d1, d2] => { results := [.lit (.bool false)], args := [d1, d2] }
  | _ => none }
def LawS4571CEvenWrongFalsely : Prop := lawS4571CEvenRow.holds Yba.pinned (OpenSpec.ofChange lawS4571CEvenWrong)

end Rows
end Go.Proofs.Ybulkcpqi
