/-
  No cell of these rows narrows 'for every input' (looked for: loops, veiled, ifaces, maps, wideKeys, modest, calm, conditions, laid).
  DERIVED. THE GIVEN ROWS OF THIS SEAT. 2 by the template 'for every input the law returns true; each argument reads behind the call as it read before'; 0 by the template 'total and deterministic' (their statements: YbulkcwgqTotals.lean).
  GIVEN WITH THE SEED: the statements are not yours to turn. If you find one false, say at which input.
  Laid BY PROGRAM, IN A SANDBOX (cutbox-rows.mjs): the forced cells as the released guide's own fill.sh prints them over the translation ffdf51b2bd5d5fb6… (all of the seat's roots in one cut). By AI agents, Wed Nov 11 2026. No macro, syntax, notation, axiom, sorry.
-/
import Derived.Test.YbulkcwgqChecked
import GoSem.Claim
import GoSem.ClaimJoined
import GoSem.ClaimMapViews
import Derived.JoinedTies
import Derived.KernelRfl
namespace Go.Proofs.Ybulkcwgq
/- THE CELL 'sum', in the pinned program and in every row, IS THE sha256 OF THE DUMP (.gsa) THAT YbulkcwgqProg.lean LOADS. Nothing in Lean hashes anything: it is a label: what it is worth is what the hold of that sum in a sandbox is worth. -/
noncomputable def Yba.pinned : Pinned := { name := "ybulkcwgq", sum := "ffdf51b2bd5d5fb64242e59fb0bc8055223e64078b8761110c0df572205660b6", checked := Yba.checked }
namespace Rows
def none {H : Type} : Left H := { results := [], args := [] }

/-- 'breakwater.LawS4891CWords': WHATEVER THE INPUT: true; the input reads as it did. -/
def lawS4891CWordsSpec : ChangeSpec := { name := "lawS4891CWords", fn := fun _ => fun
  | [d1, d2, d3, d4, d5, d6, d7, d8] => { results := [.lit (.bool true)], args := [d1, d2, d3, d4, d5, d6, d7, d8] }
  | _ => none }
def lawS4891CWordsRow : OpenClaim := { program := "ybulkcwgq", sum := "ffdf51b2bd5d5fb64242e59fb0bc8055223e64078b8761110c0df572205660b6", func := "example.com/breakwater/breakwater.LawS4891CWords", spec := "lawS4891CWords", apart := false }
def LawS4891CWordsSaid : Prop := lawS4891CWordsRow.holds Yba.pinned (OpenSpec.ofChange lawS4891CWordsSpec)

/-- ITS FALSE NEIGHBOUR: 'it returns false'. Refute it at one input. -/
def lawS4891CWordsWrong : ChangeSpec := { name := "lawS4891CWords", fn := fun _ => fun
  | [d1, d2, d3, d4, d5, d6, d7, d8] => { results := [.lit (.bool false)], args := [d1, d2, d3, d4, d5, d6, d7, d8] }
  | _ => none }
def LawS4891CWordsWrongFalsely : Prop := lawS4891CWordsRow.holds Yba.pinned (OpenSpec.ofChange lawS4891CWordsWrong)

/-- 'breakwater.LawS4891CInt64': WHATEVER THE INPUT: true; the input reads as it did. -/
def lawS4891CInt64Spec : ChangeSpec := { name := "lawS4891CInt64", fn := fun _ => fun
  | [d1, d2] => { results := [.lit (.bool true)], args := [d1, d2] }
  | _ => none }
def lawS4891CInt64Row : OpenClaim := { program := "ybulkcwgq", sum := "ffdf51b2bd5d5fb64242e59fb0bc8055223e64078b8761110c0df572205660b6", func := "example.com/breakwater/breakwater.LawS4891CInt64", spec := "lawS4891CInt64", apart := false }
def LawS4891CInt64Said : Prop := lawS4891CInt64Row.holds Yba.pinned (OpenSpec.ofChange lawS4891CInt64Spec)

/-- ITS FALSE NEIGHBOUR: 'it returns false'. Refute it at one input. -/
def lawS4891CInt64Wrong : ChangeSpec := { name := "lawS4891CInt64", fn := fun _ => fun
  | [d1, d2] => { results := [.lit (.bool false)], args := [d1, d2] }
  | _ => none }
def LawS4891CInt64WrongFalsely : Prop := lawS4891CInt64Row.holds Yba.pinned (OpenSpec.ofChange lawS4891CInt64Wrong)

end Rows
end Go.Proofs.Ybulkcwgq
