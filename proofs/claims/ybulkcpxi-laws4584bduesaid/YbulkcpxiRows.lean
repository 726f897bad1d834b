/-
  No cell of these rows narrows 'for every input' (looked for: loops, veiled, ifaces, maps, wideKeys, modest, calm, conditions, laid).
  DERIVED. THE GIVEN ROWS OF THIS SEAT. 4 by the template 'for every input the law returns true; each argument reads behind the call as it read before'; 0 by the template 'total and deterministic' (their statements: YbulkcpxiTotals.lean).
  GIVEN WITH THE SEED: the statements are not yours to turn. If you find one false, say at which input.
  Laid BY PROGRAM, IN A SANDBOX (cutbox-rows.mjs): the forced cells as the released guide's own fill.sh prints them over the translation 48ea0ad2f2de13ef… (all of the seat's roots in one cut). By AI agents, Wed Nov 11 2026. No macro, syntax, notation, axiom, sorry.
-/
import Derived.Test.YbulkcpxiChecked
import GoSem.Claim
import GoSem.ClaimJoined
import GoSem.ClaimMapViews
import Derived.JoinedTies
import Derived.KernelRfl
namespace Go.Proofs.Ybulkcpxi
/- THE CELL 'sum', in the pinned program and in every row, IS THE sha256 OF THE DUMP (.gsa) THAT YbulkcpxiProg.lean LOADS. Nothing in Lean hashes anything: it is a label: what it is worth is what the hold of that sum in a sandbox is worth. -/
noncomputable def Yba.pinned : Pinned := { name := "ybulkcpxi", sum := "48ea0ad2f2de13ef655df0bde85775c097dea67f3d21b6ed85f543aec43e31f0", checked := Yba.checked }
namespace Rows
def none {H : Type} : Left H := { results := [], args := [] }

/-- 'compensata.LawS4584AModel': WHATEVER THE INPUT: true; the input reads as it did. -/
def lawS4584AModelSpec : ChangeSpec := { name := "lawS4584AModel", fn := fun _ => fun
  | [d] => { results := [.lit (.bool true)], args := [d] }
  | _ => none }
def lawS4584AModelRow : OpenClaim := { program := "ybulkcpxi", sum := "48ea0ad2f2de13ef655df0bde85775c097dea67f3d21b6ed85f543aec43e31f0", func := "example.com/compensata/compensata.LawS4584AModel", spec := "lawS4584AModel", unfollowed := true, recurses := true, apart := false }
def LawS4584AModelSaid : Prop := lawS4584AModelRow.holds Yba.pinned (OpenSpec.ofChange lawS4584AModelSpec)

/-- ITS FALSE NEIGHBOUR: 'it returns false'. Refute it at one input. -/
def lawS4584AModelWrong : ChangeSpec := { name := "lawS4584AModel", fn := fun _ => fun
  | [d] => { results := [.lit (.bool false)], args := [d] }
  | _ => none }
def LawS4584AModelWrongFalsely : Prop := lawS4584AModelRow.holds Yba.pinned (OpenSpec.ofChange lawS4584AModelWrong)

/-- 'compensata.LawS4584BDue': WHATEVER THE INPUT: true; the input reads as it did. -/
def lawS4584BDueSpec : ChangeSpec := { name := "lawS4584BDue", fn := fun _ => fun
  | [d1, d2, d3, d4, d5, d6, d7] => { results := [.lit (.bool true)], args := [d1, d2, d3, d4, d5, d6, d7] }
  | _ => none }
def lawS4584BDueRow : OpenClaim := { program := "ybulkcpxi", sum := "48ea0ad2f2de13ef655df0bde85775c097dea67f3d21b6ed85f543aec43e31f0", func := "example.com/compensata/compensata.LawS4584BDue", spec := "lawS4584BDue", apart := false }
def LawS4584BDueSaid : Prop := lawS4584BDueRow.holds Yba.pinned (OpenSpec.ofChange lawS4584BDueSpec)

/-- ITS FALSE NEIGHBOUR: 'it returns false'. Refute it at one input. -/
def lawS4584BDueWrong : ChangeSpec := { name := "lawS4584BDue", fn := fun _ => fun
  | [d1, d2, d3, d4, d5, d6, d7] => { results := [.lit (.bool false)], args := [d1, d2, d3, d4, d5, d6, d7] }
  | _ => none }
def LawS4584BDueWrongFalsely : Prop := lawS4584BDueRow.holds Yba.pinned (OpenSpec.ofChange lawS4584BDueWrong)

/-- 'compensata.LawS4584CModel': WHATEVER THE INPUT: true; the input reads as it did. -/
def lawS4584CModelSpec : ChangeSpec := { name := "lawS4584CModel", fn := fun _ => fun
  | [d] => { results := [.lit (.bool true)], args := [d] }
  | _ => none }
def lawS4584CModelRow : OpenClaim := { program := "ybulkcpxi", sum := "48ea0ad2f2de13ef655df0bde85775c097dea67f3d21b6ed85f543aec43e31f0", func := "example.com/compensata/compensata.LawS4584CModel", spec := "lawS4584CModel", inPlace := ["internal/bytealg.IndexByteString", "internal/abi.NoEscape"], apart := false }
def LawS4584CModelSaid : Prop := lawS4584CModelRow.holds Yba.pinned (OpenSpec.ofChange lawS4584CModelSpec)

/-- ITS FALSE NEIGHBOUR: 'it returns false'. Refute it at one input. -/
def lawS4584CModelWrong : ChangeSpec := { name := "lawS4584CModel", fn := fun _ => fun
  | [d] => { results := [.lit (.bool false)], args := [d] }
  | _ => none }
def LawS4584CModelWrongFalsely : Prop := lawS4584CModelRow.holds Yba.pinned (OpenSpec.ofChange lawS4584CModelWrong)

/-- 'compensata.LawS4584CIdem': WHATEVER THE INPUT: true; the input reads as it did. -/
def lawS4584CIdemSpec : ChangeSpec := { name := "lawS4584CIdem", fn := fun _ => fun
  | [d] => { results := [.lit (.bool true)], args := [d] }
  | _ => none }
def lawS4584CIdemRow : OpenClaim := { program := "ybulkcpxi", sum := "48ea0ad2f2de13ef655df0bde85775c097dea67f3d21b6ed85f543aec43e31f0", func := "example.com/compensata/compensata.LawS4584CIdem", spec := "lawS4584CIdem", inPlace := ["internal/bytealg.IndexByteString"], apart := false }
def LawS4584CIdemSaid : Prop := lawS4584CIdemRow.holds Yba.pinned (OpenSpec.ofChange lawS4584CIdemSpec)

/-- ITS FALSE NEIGHBOUR: 'it returns false'. Refute it at one input. -/
def lawS4584CIdemWrong : ChangeSpec := { name := "lawS4584CIdem", fn := fun _ => fun
  | [d] => { results := [.lit (.bool false)], args := [d] }
  | _ => none }
def LawS4584CIdemWrongFalsely : Prop := lawS4584CIdemRow.holds Yba.pinned (OpenSpec.ofChange lawS4584CIdemWrong)

end Rows
end Go.Proofs.Ybulkcpxi
