/-
  No cell of these rows narrows 'for every input' (looked for: loops, veiled, ifaces, maps, wideKeys, modest, calm, conditions, laid).
  DERIVED. THE GIVEN ROWS OF THIS SEAT. 2 by the template 'for every input the law returns true; each argument reads behind the call as it read before'; 0 by the template 'total and deterministic' (their statements: YbulkpowTotals.lean).
  GIVEN WITH THE SEED: the statements are not yours to turn. If you find one false, say at which input.
  Laid BY PROGRAM, IN A SANDBOX (cutbox-rows.mjs): the forced cells as the released guide's own fill.sh prints them over the translation 44ba15f649650465… (all of the seat's roots in one cut). By AI agents, Wed Nov 11 2026. No macro, syntax, notation, axiom, sorry.
-/
import Derived.Test.YbulkpowChecked
import GoSem.Claim
import GoSem.ClaimJoined
import GoSem.ClaimMapViews
import Derived.JoinedTies
import Derived.KernelRfl
namespace Go.Proofs.Ybulkpow
/- THE CELL 'sum', in the pinned program and in every row, IS THE sha256 OF THE DUMP (.gsa) THAT YbulkpowProg.lean LOADS. Nothing in Lean hashes anything: it is a label: what it is worth is what the hold of that sum in a sandbox is worth. -/
noncomputable def Yba.pinned : Pinned := { name := "ybulkpow", sum := "44ba15f649650465df7b397d84274b966df0eefb0e201dffa4c9a5c49a13e56a", checked := Yba.checked }
namespace Rows
def none {H : Type} : Left H := { results := [], args := [] }

/-- 'matchwork.LawS0802COrder': WHATEVER THE INPUT: true; the input reads as it did. -/
def lawS0802COrderSpec : ChangeSpec := { name := "lawS0802COrder", fn := fun _ => fun
  | [d1, d2, d3, d4, d5, d6] => { results := [.lit (.bool true)], args := [d1, d2, d3, d4, d5, d6] }
  | _ => none }
def lawS0802COrderRow : OpenClaim := { program := "ybulkpow", sum := "44ba15f649650465df7b397d84274b966df0eefb0e201dffa4c9a5c49a13e56a", func := "example.com/matchwork/matchwork.LawS0802COrder", spec := "lawS0802COrder", apart := false }
def LawS0802COrderSaid : Prop := lawS0802COrderRow.holds Yba.pinned (OpenSpec.ofChange lawS0802COrderSpec)

/-- ITS FALSE NEIGHBOUR: 'it returns false'. Refute it at one input. -/
def lawS0802COrderWrong : ChangeSpec := { name := "lawS0802COrder", fn := fun _ => fun
  | [d1, d2, d3, d4, d5, d6] => { results := [.lit (.bool false)], args := [d1, d2, d3, d4, d5, d6] }
  | _ => none }
def LawS0802COrderWrongFalsely : Prop := lawS0802COrderRow.holds Yba.pinned (OpenSpec.ofChange lawS0802COrderWrong)

/-- 'matchwork.LawS0802CStrict': WHATEVER THE INPUT: true; the input reads as it did. -/
def lawS0802CStrictSpec : ChangeSpec := { name := "lawS0802CStrict", fn := fun _ => fun
  | [d1, d2, d3, d4, d5, d6] => { results := [.lit (.bool true)], args := [d1, d2, d3, d4, d5, d6] }
  | _ => none }
def lawS0802CStrictRow : OpenClaim := { program := "ybulkpow", sum := "44ba15f649650465df7b397d84274b966df0eefb0e201dffa4c9a5c49a13e56a", func := "example.com/matchwork/matchwork.LawS0802CStrict", spec := "lawS0802CStrict", apart := false }
def LawS0802CStrictSaid : Prop := lawS0802CStrictRow.holds Yba.pinned (OpenSpec.ofChange lawS0802CStrictSpec)

/-- ITS FALSE NEIGHBOUR: 'it returns false'. Refute it at one input. -/
def lawS0802CStrictWrong : ChangeSpec := { name := "lawS0802CStrict", fn := fun _ => fun
  | [d1, d2, d3, d4, d5, d6] => { results := [.lit (.bool false)], args := [d1, d2, d3, d4, d5, d6] }
  | _ => none }
def LawS0802CStrictWrongFalsely : Prop := lawS0802CStrictRow.holds Yba.pinned (OpenSpec.ofChange lawS0802CStrictWrong)

end Rows
end Go.Proofs.Ybulkpow
