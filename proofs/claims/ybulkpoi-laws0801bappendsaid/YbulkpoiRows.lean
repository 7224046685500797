/-
  No cell of these rows narrows 'for every input' (looked for: loops, veiled, ifaces, maps, wideKeys, modest, calm, conditions, laid).
  DERIVED. THE GIVEN ROWS OF THIS SEAT. 3 by the template 'for every input the law returns true; each argument reads behind the call as it read before'; 0 by the template 'total and deterministic' (their statements: YbulkpoiTotals.lean).
  GIVEN WITH THE SEED: the statements are not yours to turn. If you find one false, say at which input.
  Laid BY PROGRAM, IN A SANDBOX (cutbox-rows.mjs): the forced cells as the released guide's own fill.sh prints them over the translation 0da10327a6d9278f… (all of the seat's roots in one cut). By AI agents, Wed Nov 11 2026. No macro, syntax, notation, axiom, sorry.
-/
import Derived.Test.YbulkpoiChecked
import GoSem.Claim
import GoSem.ClaimJoined
import GoSem.ClaimMapViews
import Derived.JoinedTies
import Derived.KernelRfl
namespace Go.Proofs.Ybulkpoi
/- THE CELL 'sum', in the pinned program and in every row, IS THE sha256 OF THE DUMP (.gsa) THAT YbulkpoiProg.lean LOADS. Nothing in Lean hashes anything: it is a label: what it is worth is what the hold of that sum in a sandbox is worth. -/
noncomputable def Yba.pinned : Pinned := { name := "ybulkpoi", sum := "0da10327a6d9278f59477d609e2e6cb8e861194e386ea0ac7ac9d5d6e7eefbad", checked := Yba.checked }
namespace Rows
def none {H : Type} : Left H := { results := [], args := [] }

/-- 'cluster.LawS0801AText': WHATEVER THE INPUT: true; the input reads as it did. -/
def lawS0801ATextSpec : ChangeSpec := { name := "lawS0801AText", fn := fun _ => fun
  | [d] => { results := [.lit (.bool true)], args := [d] }
  | _ => none }
def lawS0801ATextRow : OpenClaim := { program := "ybulkpoi", sum := "0da10327a6d9278f59477d609e2e6cb8e861194e386ea0ac7ac9d5d6e7eefbad", func := "example.com/spindrift/spindrift/internal/cluster.LawS0801AText", spec := "lawS0801AText", plainKeys := false, apart := false }
def LawS0801ATextSaid : Prop := lawS0801ATextRow.holds Yba.pinned (OpenSpec.ofChange lawS0801ATextSpec)

/-- ITS FALSE NEIGHBOUR: 'it returns false'. Refute it at one input. -/
def lawS0801ATextWrong : ChangeSpec := { name := "lawS0801AText", fn := fun _ => fun
  | [d] => { results := [.lit (.bool false)], args := [d] }
  | _ => none }
def LawS0801ATextWrongFalsely : Prop := lawS0801ATextRow.holds Yba.pinned (OpenSpec.ofChange lawS0801ATextWrong)

/-- 'cluster.LawS0801ASuffix': WHATEVER THE INPUT: true; the input reads as it did. -/
def lawS0801ASuffixSpec : ChangeSpec := { name := "lawS0801ASuffix", fn := fun _ => fun
  | [d1, d2] => { results := [.lit (.bool true)], args := [d1, d2] }
  | _ => none }
def lawS0801ASuffixRow : OpenClaim := { program := "ybulkpoi", sum := "0da10327a6d9278f59477d609e2e6cb8e861194e386ea0ac7ac9d5d6e7eefbad", func := "example.com/spindrift/spindrift/internal/cluster.LawS0801ASuffix", spec := "lawS0801ASuffix", plainKeys := false, apart := false }
def LawS0801ASuffixSaid : Prop := lawS0801ASuffixRow.holds Yba.pinned (OpenSpec.ofChange lawS0801ASuffixSpec)

/-- ITS FALSE NEIGHBOUR: 'it returns false'. Refute it at one input. -/
def lawS0801ASuffixWrong : ChangeSpec := { name := "lawS0801ASuffix", fn := fun _ => fun
  | [d1, d2] => { results := [.lit (.bool false)], args := [d1, d2] }
  | _ => none }
def LawS0801ASuffixWrongFalsely : Prop := lawS0801ASuffixRow.holds Yba.pinned (OpenSpec.ofChange lawS0801ASuffixWrong)

/-- 'spindrift.LawS0801BAppend': WHATEVER THE INPUT: true; the input reads as it did. -/
def lawS0801BAppendSpec : ChangeSpec := { name := "lawS0801BAppend", fn := fun _ => fun
  | [d1, d2, d3, d4, d5, d6] => { results := [.lit (.bool true)], args := [d1, d2, d3, d4, d5, d6] }
  | _ => none }
def lawS0801BAppendRow : OpenClaim := { program := "ybulkpoi", sum := "0da10327a6d9278f59477d609e2e6cb8e861194e386ea0ac7ac9d5d6e7eefbad", func := "example.com/spindrift/spindrift.LawS0801BAppend", spec := "lawS0801BAppend", unfollowed := true, recurses := true, plainKeys := false, apart := false }
def LawS0801BAppendSaid : Prop := lawS0801BAppendRow.holds Yba.pinned (OpenSpec.ofChange lawS0801BAppendSpec)

/-- ITS FALSE NEIGHBOUR: 'it returns false'. Refute it at one input. -/
def lawS0801BAppendWrong : ChangeSpec := { name := "lawS0801BAppend", fn := fun _ => fun
  | [d1, d2, d3, d4, d5, d6] => { results := [.lit (.bool false)], args := [d1, d2, d3, d4, d5, d6] }
  | _ => none }
def LawS0801BAppendWrongFalsely : Prop := lawS0801BAppendRow.holds Yba.pinned (OpenSpec.ofChange lawS0801BAppendWrong)

end Rows
end Go.Proofs.Ybulkpoi
