/-
  No cell of these rows narrows 'for every input' (looked for: loops, veiled, ifaces, maps, wideKeys, modest, calm, conditions, laid).
  DERIVED. THE GIVEN ROWS OF THIS SEAT. 2 by the template 'for every input the law returns true; each argument reads behind the call as it read before'; 0 by the template 'total and deterministic' (their statements: YbulkcpryTotals.lean).
  GIVEN WITH THE SEED: the statements are not yours to turn. If you find one false, say at which input.
  Laid BY PROGRAM, IN A SANDBOX (cutbox-rows.mjs): the forced cells as the released guide's own fill.sh prints them over the translation 26d1eca43c5a311f… (all of the seat's roots in one cut). By AI agents, Wed Nov 11 2026. No macro, syntax, notation, axiom, sorry.
-/
import Derived.Test.YbulkcpryChecked
import GoSem.Claim
import GoSem.ClaimJoined
import GoSem.ClaimMapViews
import Derived.JoinedTies
import Derived.KernelRfl
namespace Go.Proofs.Ybulkcpry
/- THE CELL 'sum', in the pinned program and in every row, IS THE sha256 OF THE DUMP (.gsa) THAT YbulkcpryProg.lean LOADS. Nothing in Lean hashes anything: it is a label: what it is worth is what the hold of that sum in a sandbox is worth. -/
noncomputable def Yba.pinned : Pinned := { name := "ybulkcpry", sum := "26d1eca43c5a311fe9e88ee350611946fea9eded3012ee25195b9c201f450c82", checked := Yba.checked }
namespace Rows
def none {H : Type} : Left H := { results := [], args := [] }

/-- 'store.LawS4574CAppends': WHATEVER THE INPUT: true; the input reads as it did. -/
def lawS4574CAppendsSpec : ChangeSpec := { name := "lawS4574CAppends", fn := fun _ => fun
  | [d1, d2, d3] => { results := [.lit (.bool true)], args := [d1, d2, d3] }
  | _ => none }
def lawS4574CAppendsRow : OpenClaim := { program := "ybulkcpry", sum := "26d1eca43c5a311fe9e88ee350611946fea9eded3012ee25195b9c201f450c82", func := "example.com/plima/plima/pkg/store.LawS4574CAppends", spec := "lawS4574CAppends", apart := false }
def LawS4574CAppendsSaid : Prop := lawS4574CAppendsRow.holds Yba.pinned (OpenSpec.ofChange lawS4574CAppendsSpec)

/-- ITS FALSE NEIGHBOUR: 'it returns false'. Refute it at one input. -/
def lawS4574CAppendsWrong : ChangeSpec := { name := "lawS4574CAppends", fn := fun _ => fun
  | [d1, d2, d3] => { results := [.lit (.bool false)], args := [d1, d2, d3] }
  | _ => none }
def LawS4574CAppendsWrongFalsely : Prop := lawS4574CAppendsRow.holds Yba.pinned (OpenSpec.ofChange lawS4574CAppendsWrong)

/-- 'store.LawS4574CSince': WHATEVER THE INPUT: true; the input reads as it did. -/
def lawS4574CSinceSpec : ChangeSpec := { name := "lawS4574CSince", fn := fun _ => fun
  | [d1, d2, d3] => { results := [.lit (.bool true)], args := [d1, d2, d3] }
  | _ => none }
def lawS4574CSinceRow : OpenClaim := { program := "ybulkcpry", sum := "26d1eca43c5a311fe9e88ee350611946fea9eded3012ee25195b9c201f450c82", func := "example.com/plima/plima/pkg/store.LawS4574CSince", spec := "lawS4574CSince", apart := false }
def LawS4574CSinceSaid : Prop := lawS4574CSinceRow.holds Yba.pinned (OpenSpec.ofChange lawS4574CSinceSpec)

/-- ITS FALSE NEIGHBOUR: 'it returns false'. Refute it at one input. -/
def lawS4574CSinceWrong : ChangeSpec := { name := "lawS4574CSince", fn := fun _ => fun
  | [d1, d2, d3] => { results := [.lit (.bool false)], args := [d1, d2, d3] }
  | _ => none }
def LawS4574CSinceWrongFalsely : Prop := lawS4574CSinceRow.holds Yba.pinned (OpenSpec.ofChange lawS4574CSinceWrong)

end Rows
end Go.Proofs.Ybulkcpry
