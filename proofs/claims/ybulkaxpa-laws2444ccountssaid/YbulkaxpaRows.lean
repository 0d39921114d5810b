/-
  No cell of these rows narrows 'for every input' (looked for: loops, veiled, ifaces, maps, wideKeys, modest, calm, conditions, laid).
  DERIVED. THE GIVEN ROWS OF THIS SEAT. 1 by the template 'for every input the law returns true; each argument reads behind the call as it read before'; 0 by the template 'total and deterministic' (their statements: YbulkaxpaTotals.lean).
  GIVEN WITH THE SEED: the statements are not yours to turn. If you find one false, say at which input.
  Laid BY PROGRAM, IN A SANDBOX (cutbox-rows.mjs): the forced cells as the released guide's own fill.sh prints them over the translation 7a19660cb01f657a… (all of the seat's roots in one cut). By AI agents, Wed Nov 11 2026. No macro, syntax, notation, axiom, sorry.
-/
import Derived.Test.YbulkaxpaChecked
import GoSem.Claim
import GoSem.ClaimJoined
import GoSem.ClaimMapViews
import Derived.JoinedTies
import Derived.KernelRfl
namespace Go.Proofs.Ybulkaxpa
/- THE CELL 'sum', in the pinned program and in every row, IS THE sha256 OF THE DUMP (.gsa) THAT YbulkaxpaProg.lean LOADS. Nothing in Lean hashes anything: it is a label: what it is worth is what the hold of that sum in a sandbox is worth. -/
noncomputable def Yba.pinned : Pinned := { name := "ybulkaxpa", sum := "7a19660cb01f657ac8d8c7ae1fafa82392cc00d3b79376956600027d34913ea9", checked := Yba.checked }
namespace Rows
def none {H : Type} : Left H := { results := [], args := [] }

/-- 'sim.LawS2444CCounts': WHATEVER THE INPUT: true; the input reads as it did. -/
def lawS2444CCountsSpec : ChangeSpec := { name := "lawS2444CCounts", fn := fun _ => fun
  | [d1, d2] => { results := [.lit (.bool true)], args := [d1, d2] }
  | _ => none }
def lawS2444CCountsRow : OpenClaim := { program := "ybulkaxpa", sum := "7a19660cb01f657ac8d8c7ae1fafa82392cc00d3b79376956600027d34913ea9", func := "example.com/evenbough/evenbough/pkg/sim.LawS2444CCounts", spec := "lawS2444CCounts", apart := false }
def LawS2444CCountsSaid : Prop := lawS2444CCountsRow.holds Yba.pinned (OpenSpec.ofChange lawS2444CCountsSpec)

/-- ITS FALSE NEIGHBOUR: 'it returns false'. Refute it at one input. -/
def lawS2444CCountsWrong : ChangeSpec := { name := "lawS2444CCounts", fn := fun _ => fun
  | [d1, d2] => { results := [.lit (.bool false)], args := [d1, d2] }
  | _ => none }
def LawS2444CCountsWrongFalsely : Prop := lawS2444CCountsRow.holds Yba.pinned (OpenSpec.ofChange lawS2444CCountsWrong)

end Rows
end Go.Proofs.Ybulkaxpa
