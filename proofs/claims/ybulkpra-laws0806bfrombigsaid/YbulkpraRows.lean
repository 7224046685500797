/-
  No cell of these rows narrows 'for every input' (looked for: loops, veiled, ifaces, maps, wideKeys, modest, calm, conditions, laid).
  DERIVED. THE GIVEN ROWS OF THIS SEAT. 1 by the template 'for every input the law returns true; each argument reads behind the call as it read before'; 0 by the template 'total and deterministic' (their statements: YbulkpraTotals.lean).
  GIVEN WITH THE SEED: the statements are not yours to turn. If you find one false, say at which input.
  Laid BY PROGRAM, IN A SANDBOX (cutbox-rows.mjs): the forced cells as the released guide's own fill.sh prints them over the translation 7e879d29f678873c… (all of the seat's roots in one cut). By AI agents, Wed Nov 11 2026. No macro, syntax, notation, axiom, sorry.
-/
import Derived.Test.YbulkpraChecked
import GoSem.Claim
import GoSem.ClaimJoined
import GoSem.ClaimMapViews
import Derived.JoinedTies
import Derived.KernelRfl
namespace Go.Proofs.Ybulkpra
/- THE CELL 'sum', in the pinned program and in every row, IS THE sha256 OF THE DUMP (.gsa) THAT YbulkpraProg.lean LOADS. Nothing in Lean hashes anything: it is a label: what it is worth is what the hold of that sum in a sandbox is worth. -/
noncomputable def Yba.pinned : Pinned := { name := "ybulkpra", sum := "7e879d29f678873c838aa3b1c5df047766d123f9ed7da145d1d961c9350a9f19", checked := Yba.checked }
namespace Rows
def none {H : Type} : Left H := { results := [], args := [] }

/-- 'decimal.LawS0806BFromBig': WHATEVER THE INPUT: true; the input reads as it did. -/
def lawS0806BFromBigSpec : ChangeSpec := { name := "lawS0806BFromBig", fn := fun _ => fun
  | [d1, d2, d3, d4] => { results := [.lit (.bool true)], args := [d1, d2, d3, d4] }
  | _ => none }
def lawS0806BFromBigRow : OpenClaim := { program := "ybulkpra", sum := "7e879d29f678873c838aa3b1c5df047766d123f9ed7da145d1d961c9350a9f19", func := "example.com/tuoguan/tuoguan/internal/decimal.LawS0806BFromBig", spec := "lawS0806BFromBig", inPlace := ["math/big.lshVU"], apart := false }
def LawS0806BFromBigSaid : Prop := lawS0806BFromBigRow.holds Yba.pinned (OpenSpec.ofChange lawS0806BFromBigSpec)

/-- ITS FALSE NEIGHBOUR: 'it returns false'. Refute it at one input. -/
def lawS0806BFromBigWrong : ChangeSpec := { name := "lawS0806BFromBig", fn := fun _ => fun
  | [d1, d2, d3, d4] => { results := [.lit (.bool false)], args := [d1, d2, d3, d4] }
  | _ => none }
def LawS0806BFromBigWrongFalsely : Prop := lawS0806BFromBigRow.holds Yba.pinned (OpenSpec.ofChange lawS0806BFromBigWrong)

end Rows
end Go.Proofs.Ybulkpra
