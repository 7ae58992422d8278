/-
  No cell of these rows narrows 'for every input' (looked for: loops, veiled, ifaces, maps, wideKeys, modest, calm, conditions, laid).
  DERIVED. THE GIVEN ROWS OF THIS SEAT. 2 by the template 'for every input the law returns true; each argument reads behind the call as it read before'; 0 by the template 'total and deterministic' (their statements: YbulkaxsuTotals.lean).
  GIVEN WITH THE SEED: the statements are not yours to turn. If you find one false, say at which input.
  Laid BY PROGRAM, IN A SANDBOX (cutbox-rows.mjs): the forced cells as the released guide's own fill.sh prints them over the translation 834fd3979d27279e… (all of the seat's roots in one cut). By AI agents, Wed Nov 11 2026. No macro, syntax, notation, axiom, sorry.
-/
import Derived.Test.YbulkaxsuChecked
import GoSem.Claim
import GoSem.ClaimJoined
import GoSem.ClaimMapViews
import Derived.JoinedTies
import Derived.KernelRfl
namespace Go.Proofs.Ybulkaxsu
/- THE CELL 'sum', in the pinned program and in every row, IS THE sha256 OF THE DUMP (.gsa) THAT YbulkaxsuProg.lean LOADS. Nothing in Lean hashes anything: it is a label: what it is worth is what the hold of that sum in a sandbox is worth. -/
noncomputable def Yba.pinned : Pinned := { name := "ybulkaxsu", sum := "834fd3979d27279e86c4b446dbb2801cc4b2e76daa0098a8be8ec4010e0d94dc", checked := Yba.checked }
namespace Rows
def none {H : Type} : Left H := { results := [], args := [] }

/-- 'explore.LawS2451BBytes': WHATEVER THE INPUT: true; the input reads as it did. -/
def lawS2451BBytesSpec : ChangeSpec := { name := "lawS2451BBytes", fn := fun _ => fun
  | [d] => { results := [.lit (.bool true)], args := [d] }
  | _ => none }
def lawS2451BBytesRow : OpenClaim := { program := "ybulkaxsu", sum := "834fd3979d27279e86c4b446dbb2801cc4b2e76daa0098a8be8ec4010e0d94dc", func := "example.com/mergewise/mergewise/internal/explore.LawS2451BBytes", spec := "lawS2451BBytes", named := ["encoding/binary.LittleEndian"], apart := false }
def LawS2451BBytesSaid : Prop := lawS2451BBytesRow.holds Yba.pinned (OpenSpec.ofChange lawS2451BBytesSpec)

/-- ITS FALSE NEIGHBOUR: 'it returns false'. Refute it at one input. -/
def lawS2451BBytesWrong : ChangeSpec := { name := "lawS2451BBytes", fn := fun _ => fun
  | [d] => { results := [.lit (.bool false)], args := [d] }
  | _ => none }
def LawS2451BBytesWrongFalsely : Prop := lawS2451BBytesRow.holds Yba.pinned (OpenSpec.ofChange lawS2451BBytesWrong)

/-- 'explore.LawS2451BRoundTrip': WHATEVER THE INPUT: true; the input reads as it did. -/
def lawS2451BRoundTripSpec : ChangeSpec := { name := "lawS2451BRoundTrip", fn := fun _ => fun
  | [d] => { results := [.lit (.bool true)], args := [d] }
  | _ => none }
def lawS2451BRoundTripRow : OpenClaim := { program := "ybulkaxsu", sum := "834fd3979d27279e86c4b446dbb2801cc4b2e76daa0098a8be8ec4010e0d94dc", func := "example.com/mergewise/mergewise/internal/explore.LawS2451BRoundTrip", spec := "lawS2451BRoundTrip", named := ["encoding/binary.LittleEndian"], apart := false }
def LawS2451BRoundTripSaid : Prop := lawS2451BRoundTripRow.holds Yba.pinned (OpenSpec.ofChange lawS2451BRoundTripSpec)

/-- ITS FALSE NEIGHBOUR: 'it returns false'. Refute it at one input. -/
def lawS2451BRoundTripWrong : ChangeSpec := { name := "lawS2451BRoundTrip", fn := fun _ => fun
  | [d] => { results := [.lit (.bool false)], args := [d] }
  | _ => none }
def LawS2451BRoundTripWrongFalsely : Prop := lawS2451BRoundTripRow.holds Yba.pinned (OpenSpec.ofChange lawS2451BRoundTripWrong)

end Rows
end Go.Proofs.Ybulkaxsu
