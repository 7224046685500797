/-
  No cell of these rows narrows 'for every input' (looked for: loops, veiled, ifaces, maps, wideKeys, modest, calm, conditions, laid).
  DERIVED. THE GIVEN ROWS OF THIS SEAT. 4 by the template 'for every input the law returns true; each argument reads behind the call as it read before'; 0 by the template 'total and deterministic' (their statements: YbulkpscTotals.lean).
  GIVEN WITH THE SEED: the statements are not yours to turn. If you find one false, say at which input.
  Laid BY PROGRAM, IN A SANDBOX (cutbox-rows.mjs): the forced cells as the released guide's own fill.sh prints them over the translation 6bc52f4212f12613… (all of the seat's roots in one cut). By AI agents, Wed Nov 11 2026. No macro, syntax, notation, axiom, sorry.
-/
import Derived.Test.YbulkpscChecked
import GoSem.Claim
import GoSem.ClaimJoined
import GoSem.ClaimMapViews
import Derived.JoinedTies
import Derived.KernelRfl
namespace Go.Proofs.Ybulkpsc
/- THE CELL 'sum', in the pinned program and in every row, IS THE sha256 OF THE DUMP (.gsa) THAT YbulkpscProg.lean LOADS. Nothing in Lean hashes anything: it is a label: what it is worth is what the hold of that sum in a sandbox is worth. -/
noncomputable def Yba.pinned : Pinned := { name := "ybulkpsc", sum := "6bc52f4212f1261317d8eb60649d0b9d98b735a82843de74a6baa5a79be2b009", checked := Yba.checked }
namespace Rows
def none {H : Type} : Left H := { results := [], args := [] }

/-- 'explore.LawS0808AClose': WHATEVER THE INPUT: true; the input reads as it did. -/
def lawS0808ACloseSpec : ChangeSpec := { name := "lawS0808AClose", fn := fun _ => fun
  | [d1, d2] => { results := [.lit (.bool true)], args := [d1, d2] }
  | _ => none }
def lawS0808ACloseRow : OpenClaim := { program := "ybulkpsc", sum := "6bc52f4212f1261317d8eb60649d0b9d98b735a82843de74a6baa5a79be2b009", func := "example.com/lawrite/lawrite/explore.LawS0808AClose", spec := "lawS0808AClose", apart := false }
def LawS0808ACloseSaid : Prop := lawS0808ACloseRow.holds Yba.pinned (OpenSpec.ofChange lawS0808ACloseSpec)

/-- ITS FALSE NEIGHBOUR: 'it returns false'. Refute it at one input. -/
def lawS0808ACloseWrong : ChangeSpec := { name := "lawS0808AClose", fn := fun _ => fun
  | [d1, d2] => { results := [.lit (.bool false)], args := [d1, d2] }
  | _ => none }
def LawS0808ACloseWrongFalsely : Prop := lawS0808ACloseRow.holds Yba.pinned (OpenSpec.ofChange lawS0808ACloseWrong)

/-- 'explore.LawS0808AScript': WHATEVER THE INPUT: true; the input reads as it did. -/
def lawS0808AScriptSpec : ChangeSpec := { name := "lawS0808AScript", fn := fun _ => fun
  | [d] => { results := [.lit (.bool true)], args := [d] }
  | _ => none }
def lawS0808AScriptRow : OpenClaim := { program := "ybulkpsc", sum := "6bc52f4212f1261317d8eb60649d0b9d98b735a82843de74a6baa5a79be2b009", func := "example.com/lawrite/lawrite/explore.LawS0808AScript", spec := "lawS0808AScript", apart := false }
def LawS0808AScriptSaid : Prop := lawS0808AScriptRow.holds Yba.pinned (OpenSpec.ofChange lawS0808AScriptSpec)

/-- ITS FALSE NEIGHBOUR: 'it returns false'. Refute it at one input. -/
def lawS0808AScriptWrong : ChangeSpec := { name := "lawS0808AScript", fn := fun _ => fun
  | [d] => { results := [.lit (.bool false)], args := [d] }
  | _ => none }
def LawS0808AScriptWrongFalsely : Prop := lawS0808AScriptRow.holds Yba.pinned (OpenSpec.ofChange lawS0808AScriptWrong)

/-- 'bitset.LawS0808BBytes': WHATEVER THE INPUT: true; the input reads as it did. -/
def lawS0808BBytesSpec : ChangeSpec := { name := "lawS0808BBytes", fn := fun _ => fun
  | [d] => { results := [.lit (.bool true)], args := [d] }
  | _ => none }
def lawS0808BBytesRow : OpenClaim := { program := "ybulkpsc", sum := "6bc52f4212f1261317d8eb60649d0b9d98b735a82843de74a6baa5a79be2b009", func := "example.com/lawrite/lawrite/internal/bitset.LawS0808BBytes", spec := "lawS0808BBytes", named := ["encoding/binary.LittleEndian"], apart := false }
def LawS0808BBytesSaid : Prop := lawS0808BBytesRow.holds Yba.pinned (OpenSpec.ofChange lawS0808BBytesSpec)

/-- ITS FALSE NEIGHBOUR: 'it returns false'. Refute it at one input. -/
def lawS0808BBytesWrong : ChangeSpec := { name := "lawS0808BBytes", fn := fun _ => fun
  | [d] => { results := [.lit (.bool false)], args := [d] }
  | _ => none }
def LawS0808BBytesWrongFalsely : Prop := lawS0808BBytesRow.holds Yba.pinned (OpenSpec.ofChange lawS0808BBytesWrong)

/-- 'bitset.LawS0808BSameKey': WHATEVER THE INPUT: true; the input reads as it did. -/
def lawS0808BSameKeySpec : ChangeSpec := { name := "lawS0808BSameKey", fn := fun _ => fun
  | [d1, d2] => { results := [.lit (.bool true)], args := [d1, d2] }
  | _ => none }
def lawS0808BSameKeyRow : OpenClaim := { program := "ybulkpsc", sum := "6bc52f4212f1261317d8eb60649d0b9d98b735a82843de74a6baa5a79be2b009", func := "example.com/lawrite/lawrite/internal/bitset.LawS0808BSameKey", spec := "lawS0808BSameKey", named := ["encoding/binary.LittleEndian"], apart := false }
def LawS0808BSameKeySaid : Prop := lawS0808BSameKeyRow.holds Yba.pinned (OpenSpec.ofChange lawS0808BSameKeySpec)

/-- ITS FALSE NEIGHBOUR: 'it returns false'. Refute it at one input. -/
def lawS0808BSameKeyWrong : ChangeSpec := { name := "lawS0808BSameKey", fn := fun _ => fun
  | [d1, d2] => { results := [.lit (.bool false)], args := [d1, d2] }
  | _ => none }
def LawS0808BSameKeyWrongFalsely : Prop := lawS0808BSameKeyRow.holds Yba.pinned (OpenSpec.ofChange lawS0808BSameKeyWrong)

end Rows
end Go.Proofs.Ybulkpsc
