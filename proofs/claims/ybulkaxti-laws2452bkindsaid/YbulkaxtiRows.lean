/-
  No cell of these rows narrows 'for every input' (looked for: loops, veiled, ifaces, maps, wideKeys, modest, calm, conditions, laid).
  DERIVED. THE GIVEN ROWS OF THIS SEAT. 1 by the template 'for every input the law returns true; each argument reads behind the call as it read before'; 0 by the template 'total and deterministic' (their statements: YbulkaxtiTotals.lean).
  GIVEN WITH THE SEED: the statements are not yours to turn. If you find one false, say at which input.
  Laid BY PROGRAM, IN A SANDBOX (cutbox-rows.mjs): the forced cells as the released guide's own fill.sh prints them over the translation d069c0bec84713b6… (all of the seat's roots in one cut). By AI agents, Wed Nov 11 2026. No macro, syntax, notation, axiom, sorry.
-/
import Derived.Test.YbulkaxtiChecked
import GoSem.Claim
import GoSem.ClaimJoined
import GoSem.ClaimMapViews
import Derived.JoinedTies
import Derived.KernelRfl
namespace Go.Proofs.Ybulkaxti
/- THE CELL 'sum', in the pinned program and in every row, IS THE sha256 OF THE DUMP (.gsa) THAT YbulkaxtiProg.lean LOADS. Nothing in Lean hashes anything: it is a label: what it is worth is what the hold of that sum in a sandbox is worth. -/
noncomputable def Yba.pinned : Pinned := { name := "ybulkaxti", sum := "d069c0bec84713b6570e29394cc063a90d23e60e1588edb226f399416eac86a8", checked := Yba.checked }
namespace Rows
def none {H : Type} : Left H := { results := [], args := [] }

/-- 'lexicant.LawS2452BKind': WHATEVER THE INPUT: true; the input reads as it did. -/
def lawS2452BKindSpec : ChangeSpec := { name := "lawS2452BKind", fn := fun _ => fun
  | [d1, d2, d3, d4] => { results := [.lit (.bool true)], args := [d1, d2, d3, d4] }
  | _ => none }
def lawS2452BKindRow : OpenClaim := { program := "ybulkaxti", sum := "d069c0bec84713b6570e29394cc063a90d23e60e1588edb226f399416eac86a8", func := "example.com/lexicant/lexicant.LawS2452BKind", spec := "lawS2452BKind", apart := false }
def LawS2452BKindSaid : Prop := lawS2452BKindRow.holds Yba.pinned (OpenSpec.ofChange lawS2452BKindSpec)

/-- ITS FALSE NEIGHBOUR: 'it returns false'. Refute it at one input. -/
def lawS2452BKindWrong : ChangeSpec := { name := "lawS2452BKind", fn := fun _ => fun
  | [d1, d2, d3, d4] => { results := [.lit (.bool false)], args := [d1, d2, d3, d4] }
  | _ => none }
def LawS2452BKindWrongFalsely : Prop := lawS2452BKindRow.holds Yba.pinned (OpenSpec.ofChange lawS2452BKindWrong)

end Rows
end Go.Proofs.Ybulkaxti
