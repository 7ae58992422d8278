/-
  No cell of these rows narrows 'for every input' (looked for: loops, veiled, ifaces, maps, wideKeys, modest, calm, conditions, laid).
  DERIVED. THE GIVEN ROWS OF THIS SEAT. 2 by the template 'for every input the law returns true; each argument reads behind the call as it read before'; 0 by the template 'total and deterministic' (their statements: YbulkaxukTotals.lean).
  GIVEN WITH THE SEED: the statements are not yours to turn. If you find one false, say at which input.
  Laid BY PROGRAM, IN A SANDBOX (cutbox-rows.mjs): the forced cells as the released guide's own fill.sh prints them over the translation a2352af1a725e9fe… (all of the seat's roots in one cut). By AI agents, Wed Nov 11 2026. No macro, syntax, notation, axiom, sorry.
-/
import Derived.Test.YbulkaxukChecked
import GoSem.Claim
import GoSem.ClaimJoined
import GoSem.ClaimMapViews
import Derived.JoinedTies
import Derived.KernelRfl
namespace Go.Proofs.Ybulkaxuk
/- THE CELL 'sum', in the pinned program and in every row, IS THE sha256 OF THE DUMP (.gsa) THAT YbulkaxukProg.lean LOADS. Nothing in Lean hashes anything: it is a label: what it is worth is what the hold of that sum in a sandbox is worth. -/
noncomputable def Yba.pinned : Pinned := { name := "ybulkaxuk", sum := "a2352af1a725e9fe4cf7d758dfedd81bbe61001e14cbc28a6985148698c03327", checked := Yba.checked }
namespace Rows
def none {H : Type} : Left H := { results := [], args := [] }

/-- 'twinrail.LawS2454CExactStep': WHATEVER THE INPUT: true; the input reads as it did. -/
def lawS2454CExactStepSpec : ChangeSpec := { name := "lawS2454CExactStep", fn := fun _ => fun
  | [d1, d2, d3, d4, d5, d6] => { results := [.lit (.bool true)], args := [d1, d2, d3, d4, d5, d6] }
  | _ => none }
def lawS2454CExactStepRow : OpenClaim := { program := "ybulkaxuk", sum := "a2352af1a725e9fe4cf7d758dfedd81bbe61001e14cbc28a6985148698c03327", func := "example.com/twinrail/twinrail.LawS2454CExactStep", spec := "lawS2454CExactStep", apart := false }
def LawS2454CExactStepSaid : Prop := lawS2454CExactStepRow.holds Yba.pinned (OpenSpec.ofChange lawS2454CExactStepSpec)

/-- ITS FALSE NEIGHBOUR: 'it returns false'. Refute it at one input. -/
def lawS2454CExactStepWrong : ChangeSpec := { name := "lawS2454CExactStep", fn := fun _ => fun
  | [d1, d2, d3, d4, d5, d6] => { results := [.lit (.bool false)], args := [d1, d2, d3, d4, d5, d6] }
  | _ => none }
def LawS2454CExactStepWrongFalsely : Prop := lawS2454CExactStepRow.holds Yba.pinned (OpenSpec.ofChange lawS2454CExactStepWrong)

/-- 'twinrail.LawS2454CPlantedLabel': WHATEVER THE INPUT: true; the input reads as it did. -/
def lawS2454CPlantedLabelSpec : ChangeSpec := { name := "lawS2454CPlantedLabel", fn := fun _ => fun
  | [d1, d2, d3, d4, d5, d6, d7, d8] => { results := [.lit (.bool true)], args := [d1, d2, d3, d4, d5, d6, d7, d8] }
  | _ => none }
def lawS2454CPlantedLabelRow : OpenClaim := { program := "ybulkaxuk", sum := "a2352af1a725e9fe4cf7d758dfedd81bbe61001e14cbc28a6985148698c03327", func := "example.com/twinrail/twinrail.LawS2454CPlantedLabel", spec := "lawS2454CPlantedLabel", apart := false }
def LawS2454CPlantedLabelSaid : Prop := lawS2454CPlantedLabelRow.holds Yba.pinned (OpenSpec.ofChange lawS2454CPlantedLabelSpec)

/-- ITS FALSE NEIGHBOUR: 'it returns false'. Refute it at one input. -/
def lawS2454CPlantedLabelWrong : ChangeSpec := { name := "lawS2454CPlantedLabel", fn := fun _ => fun
  | [d1, d2, d3, d4, d5, d6, d7, d8] => { results := [.lit (.bool false)], args := [d1, d2, d3, d4, d5, d6, d7, d8] }
  | _ => none }
def LawS2454CPlantedLabelWrongFalsely : Prop := lawS2454CPlantedLabelRow.holds Yba.pinned (OpenSpec.ofChange lawS2454CPlantedLabelWrong)

end Rows
end Go.Proofs.Ybulkaxuk
