/-
  No cell of these rows narrows 'for every input' (looked for: loops, veiled, ifaces, maps, wideKeys, modest, calm, conditions, laid).
  DERIVED. THE GIVEN ROWS OF THIS SEAT. 1 by the template 'for every input the law returns true; each argument reads behind the call as it read before'; 0 by the template 'total and deterministic' (their statements: YbulkcwnqTotals.lean).
  GIVEN WITH THE SEED: the statements are not yours to turn. If you find one false, say at which input.
  Laid BY PROGRAM, IN A SANDBOX (cutbox-rows.mjs): the forced cells as the released guide's own fill.sh prints them over the translation ccb2c0b689d009f8… (all of the seat's roots in one cut). By AI agents, Wed Nov 11 2026. No macro, syntax, notation, axiom, sorry.
-/
import Derived.Test.YbulkcwnqChecked
import GoSem.Claim
import GoSem.ClaimJoined
import GoSem.ClaimMapViews
import Derived.JoinedTies
import Derived.KernelRfl
namespace Go.Proofs.Ybulkcwnq
/- THE CELL 'sum', in the pinned program and in every row, IS THE sha256 OF THE DUMP (.gsa) THAT YbulkcwnqProg.lean LOADS. Nothing in Lean hashes anything: it is a label: what it is worth is what the hold of that sum in a sandbox is worth. -/
noncomputable def Yba.pinned : Pinned := { name := "ybulkcwnq", sum := "ccb2c0b689d009f852323ae9defd58cfa22035af7a9628291ace45963c0193b9", checked := Yba.checked }
namespace Rows
def none {H : Type} : Left H := { results := [], args := [] }

/-- 'verify.LawS4904BSpans': WHATEVER THE INPUT: true; the input reads as it did. -/
def lawS4904BSpansSpec : ChangeSpec := { name := "lawS4904BSpans", fn := fun _ => fun
  | [d1, d2, d3, d4, d5] => { results := [.lit (.bool true)], args := [d1, d2, d3, d4, d5] }
  | _ => none }
def lawS4904BSpansRow : OpenClaim := { program := "ybulkcwnq", sum := "ccb2c0b689d009f852323ae9defd58cfa22035af7a9628291ace45963c0193b9", func := "example.com/crossbook/crossbook/pkg/verify.LawS4904BSpans", spec := "lawS4904BSpans", unfollowed := true, recurses := true, plainKeys := false, apart := false }
def LawS4904BSpansSaid : Prop := lawS4904BSpansRow.holds Yba.pinned (OpenSpec.ofChange lawS4904BSpansSpec)

/-- ITS FALSE NEIGHBOUR: 'it returns false'. Refute it at one input. -/
def lawS4904BSpansWrong : ChangeSpec := { name := "lawS4904BSpans", fn := fun _ => fun
  | [d1, d2, d3, d4, d5] => { results := [.lit (.bool false)], args := [d1, d2, d3, d4, d5] }
  | _ => none }
def LawS4904BSpansWrongFalsely : Prop := lawS4904BSpansRow.holds Yba.pinned (OpenSpec.ofChange lawS4904BSpansWrong)

end Rows
end Go.Proofs.Ybulkcwnq
