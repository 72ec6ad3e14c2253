/-
  No cell of these rows narrows 'for every input' (looked for: loops, veiled, ifaces, maps, wideKeys, modest, calm, conditions, laid).
  DERIVED. THE GIVEN ROWS OF THIS SEAT. 5 by the template 'for every input the law returns true; each argument reads behind the call as it read before'; 0 by the template 'total and deterministic' (their statements: YbulkcwheTotals.lean).
  GIVEN WITH THE SEED: the statements are not yours to turn. If you find one false, say at which input.
  Laid BY PROGRAM, IN A SANDBOX (cutbox-rows.mjs): the forced cells as the released guide's own fill.sh prints them over the translation 6ecbdbaba5ff13d9… (all of the seat's roots in one cut). By AI agents, Wed Nov 11 2026. No macro, syntax, notation, axiom, sorry.
-/
import Derived.Test.YbulkcwheChecked
import GoSem.Claim
import GoSem.ClaimJoined
import GoSem.ClaimMapViews
import Derived.JoinedTies
import Derived.KernelRfl
namespace Go.Proofs.Ybulkcwhe
/- THE CELL 'sum', in the pinned program and in every row, IS THE sha256 OF THE DUMP (.gsa) THAT YbulkcwheProg.lean LOADS. Nothing in Lean hashes anything: it is a label: what it is worth is what the hold of that sum in a sandbox is worth. -/
noncomputable def Yba.pinned : Pinned := { name := "ybulkcwhe", sum := "6ecbdbaba5ff13d99b07bf7ce417d0765a1cac659960b3a524fa12f86a6a1e17", checked := Yba.checked }
namespace Rows
def none {H : Type} : Left H := { results := [], args := [] }

/-- 'attributes-to-verdicts.LawS4892AModel': WHATEVER THE INPUT: true; the input reads as it did. -/
def lawS4892AModelSpec : ChangeSpec := { name := "lawS4892AModel", fn := fun _ => fun
  | [d] => { results := [.lit (.bool true)], args := [d] }
  | _ => none }
def lawS4892AModelRow : OpenClaim := { program := "ybulkcwhe", sum := "6ecbdbaba5ff13d99b07bf7ce417d0765a1cac659960b3a524fa12f86a6a1e17", func := "example.com/attributes-to-verdicts/attributes-to-verdicts.LawS4892AModel", spec := "lawS4892AModel", apart := false }
def LawS4892AModelSaid : Prop := lawS4892AModelRow.holds Yba.pinned (OpenSpec.ofChange lawS4892AModelSpec)

/-- ITS FALSE NEIGHBOUR: 'it returns false'. Refute it at one input. -/
def lawS4892AModelWrong : ChangeSpec := { name := "lawS4892AModel", fn := fun _ => fun
  | [d] => { results := [.lit (.bool false)], args := [d] }
  | _ => none }
def LawS4892AModelWrongFalsely : Prop := lawS4892AModelRow.holds Yba.pinned (OpenSpec.ofChange lawS4892AModelWrong)

/-- 'attributes-to-verdicts.LawS4892ABuilt': WHATEVER THE INPUT: true; the input reads as it did. -/
def lawS4892ABuiltSpec : ChangeSpec := { name := "lawS4892ABuilt", fn := fun _ => fun
  | [d1, d2, d3] => { results := [.lit (.bool true)], args := [d1, d2, d3] }
  | _ => none }
def lawS4892ABuiltRow : OpenClaim := { program := "ybulkcwhe", sum := "6ecbdbaba5ff13d99b07bf7ce417d0765a1cac659960b3a524fa12f86a6a1e17", func := "example.com/attributes-to-verdicts/attributes-to-verdicts.LawS4892ABuilt", spec := "lawS4892ABuilt", apart := false }
def LawS4892ABuiltSaid : Prop := lawS4892ABuiltRow.holds Yba.pinned (OpenSpec.ofChange lawS4892ABuiltSpec)

/-- ITS FALSE NEIGHBOUR: 'it returns false'. Refute it at one input. -/
def lawS4892ABuiltWrong : ChangeSpec := { name := "lawS4892ABuilt", fn := fun _ => fun
  | [d1, d2, d3] => { results := [.lit (.bool false)], args := [d1, d2, d3] }
  | _ => none }
def LawS4892ABuiltWrongFalsely : Prop := lawS4892ABuiltRow.holds Yba.pinned (OpenSpec.ofChange lawS4892ABuiltWrong)

/-- 'bdd.LawS4892BSum': WHATEVER THE INPUT: true; the input reads as it did. -/
def lawS4892BSumSpec : ChangeSpec := { name := "lawS4892BSum", fn := fun _ => fun
  | [d1, d2, d3, d4, d5, d6] => { results := [.lit (.bool true)], args := [d1, d2, d3, d4, d5, d6] }
  | _ => none }
def lawS4892BSumRow : OpenClaim := { program := "ybulkcwhe", sum := "6ecbdbaba5ff13d99b07bf7ce417d0765a1cac659960b3a524fa12f86a6a1e17", func := "example.com/attributes-to-verdicts/attributes-to-verdicts/internal/bdd.LawS4892BSum", spec := "lawS4892BSum", inPlace := ["math/big.lshVU", "math/big.addVV", "math/bits.Add64", "math/big.subVV", "math/bits.Sub64"], recurses := true, apart := false }
def LawS4892BSumSaid : Prop := lawS4892BSumRow.holds Yba.pinned (OpenSpec.ofChange lawS4892BSumSpec)

/-- ITS FALSE NEIGHBOUR: 'it returns false'. Refute it at one input. -/
def lawS4892BSumWrong : ChangeSpec := { name := "lawS4892BSum", fn := fun _ => fun
  | [d1, d2, d3, d4, d5, d6] => { results := [.lit (.bool false)], args := [d1, d2, d3, d4, d5, d6] }
  | _ => none }
def LawS4892BSumWrongFalsely : Prop := lawS4892BSumRow.holds Yba.pinned (OpenSpec.ofChange lawS4892BSumWrong)

/-- 'attributes-to-verdicts.LawS4892CModel': WHATEVER THE INPUT: true; the input reads as it did. -/
def lawS4892CModelSpec : ChangeSpec := { name := "lawS4892CModel", fn := fun _ => fun
  | [d] => { results := [.lit (.bool true)], args := [d] }
  | _ => none }
def lawS4892CModelRow : OpenClaim := { program := "ybulkcwhe", sum := "6ecbdbaba5ff13d99b07bf7ce417d0765a1cac659960b3a524fa12f86a6a1e17", func := "example.com/attributes-to-verdicts/attributes-to-verdicts.LawS4892CModel", spec := "lawS4892CModel", apart := false }
def LawS4892CModelSaid : Prop := lawS4892CModelRow.holds Yba.pinned (OpenSpec.ofChange lawS4892CModelSpec)

/-- ITS FALSE NEIGHBOUR: 'it returns false'. Refute it at one input. -/
def lawS4892CModelWrong : ChangeSpec := { name := "lawS4892CModel", fn := fun _ => fun
  | [d] => { results := [.lit (.bool false)], args := [d] }
  | _ => none }
def LawS4892CModelWrongFalsely : Prop := lawS4892CModelRow.holds Yba.pinned (OpenSpec.ofChange lawS4892CModelWrong)

/-- 'attributes-to-verdicts.LawS4892CHeldBy': WHATEVER THE INPUT: true; the input reads as it did. -/
def lawS4892CHeldBySpec : ChangeSpec := { name := "lawS4892CHeldBy", fn := fun _ => fun
  | [d] => { results := [.lit (.bool true)], args := [d] }
  | _ => none }
def lawS4892CHeldByRow : OpenClaim := { program := "ybulkcwhe", sum := "6ecbdbaba5ff13d99b07bf7ce417d0765a1cac659960b3a524fa12f86a6a1e17", func := "example.com/attributes-to-verdicts/attributes-to-verdicts.LawS4892CHeldBy", spec := "lawS4892CHeldBy", apart := false }
def LawS4892CHeldBySaid : Prop := lawS4892CHeldByRow.holds Yba.pinned (OpenSpec.ofChange lawS4892CHeldBySpec)

/-- ITS FALSE NEIGHBOUR: 'it returns false'. Refute it at one input. -/
def lawS4892CHeldByWrong : ChangeSpec := { name := "lawS4892CHeldBy", fn := fun _ => fun
  | [d] => { results := [.lit (.bool false)], args := [d] }
  | _ => none }
def LawS4892CHeldByWrongFalsely : Prop := lawS4892CHeldByRow.holds Yba.pinned (OpenSpec.ofChange lawS4892CHeldByWrong)

end Rows
end Go.Proofs.Ybulkcwhe
