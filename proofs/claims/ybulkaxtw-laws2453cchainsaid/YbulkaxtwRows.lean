/-
  No cell of these rows narrows 'for every input' (looked for: loops, veiled, ifaces, maps, wideKeys, modest, calm, conditions, laid).
  DERIVED. THE GIVEN ROWS OF THIS SEAT. 1 by the template 'for every input the law returns true; each argument reads behind the call as it read before'; 0 by the template 'total and deterministic' (their statements: YbulkaxtwTotals.lean).
  GIVEN WITH THE SEED: the statements are not yours to turn. If you find one false, say at which input.
  Laid BY PROGRAM, IN A SANDBOX (cutbox-rows.mjs): the forced cells as the released guide's own fill.sh prints them over the translation 9587d702c8f14f40… (all of the seat's roots in one cut). By AI agents, Wed Nov 11 2026. No macro, syntax, notation, axiom, sorry.
-/
import Derived.Test.YbulkaxtwChecked
import GoSem.Claim
import GoSem.ClaimJoined
import GoSem.ClaimMapViews
import Derived.JoinedTies
import Derived.KernelRfl
namespace Go.Proofs.Ybulkaxtw
/- THE CELL 'sum', in the pinned program and in every row, IS THE sha256 OF THE DUMP (.gsa) THAT YbulkaxtwProg.lean LOADS. Nothing in Lean hashes anything: it is a label: what it is worth is what the hold of that sum in a sandbox is worth. -/
noncomputable def Yba.pinned : Pinned := { name := "ybulkaxtw", sum := "9587d702c8f14f40937c675c121f0f696eb64eaf381e5a53026f6be7f72f7ce3", checked := Yba.checked }
namespace Rows
def none {H : Type} : Left H := { results := [], args := [] }

/-- 'quorumlemma.LawS2453CChain': WHATEVER THE INPUT: true; the input reads as it did. -/
def lawS2453CChainSpec : ChangeSpec := { name := "lawS2453CChain", fn := fun _ => fun
  | [d1, d2] => { results := [.lit (.bool true)], args := [d1, d2] }
  | _ => none }
def lawS2453CChainRow : OpenClaim := { program := "ybulkaxtw", sum := "9587d702c8f14f40937c675c121f0f696eb64eaf381e5a53026f6be7f72f7ce3", func := "example.com/quorumlemma/quorumlemma.LawS2453CChain", spec := "lawS2453CChain", apart := false }
def LawS2453CChainSaid : Prop := lawS2453CChainRow.holds Yba.pinned (OpenSpec.ofChange lawS2453CChainSpec)

/-- ITS FALSE NEIGHBOUR: 'it returns false'. Refute it at one input. -/
def lawS2453CChainWrong : ChangeSpec := { name := "lawS2453CChain", fn := fun _ => fun
  | [d1, d2] => { results := [.lit (.bool false)], args := [d1, d2] }
  | _ => none }
def LawS2453CChainWrongFalsely : Prop := lawS2453CChainRow.holds Yba.pinned (OpenSpec.ofChange lawS2453CChainWrong)

end Rows
end Go.Proofs.Ybulkaxtw
