/-
  No cell of these rows narrows 'for every input' (looked for: loops, veiled, ifaces, maps, wideKeys, modest, calm, conditions, laid).
  DERIVED. THE GIVEN ROWS OF THIS SEAT. 1 by the template 'for every input the law returns true; each argument reads behind the call as it read before'; 0 by the template 'total and deterministic' (their statements: YbulkcjxeTotals.lean).
  GIVEN WITH THE SEED: the statements are not yours to turn. If you find one false, say at which input.
  Laid BY PROGRAM, IN A SANDBOX (cutbox-rows.mjs): the forced cells as the released guide's own fill.sh prints them over the translation 58937b1aa8c4519e… (all of the seat's roots in one cut). By AI agents, Wed Nov 11 2026. No macro, syntax, notation, axiom, sorry.
-/
import Derived.Test.YbulkcjxeChecked
import GoSem.Claim
import GoSem.ClaimJoined
import GoSem.ClaimMapViews
import Derived.JoinedTies
import Derived.KernelRfl
namespace Go.Proofs.Ybulkcjxe
/- THE CELL 'sum', in the pinned program and in every row, IS THE sha256 OF THE DUMP (.gsa) THAT YbulkcjxeProg.lean LOADS. Nothing in Lean hashes anything: it is a label: what it is worth is what the hold of that sum in a sandbox is worth. -/
noncomputable def Yba.pinned : Pinned := { name := "ybulkcjxe", sum := "58937b1aa8c4519e86db5c623fe9eb3d642e15514031cfa929c43dace454a676", checked := Yba.checked }
namespace Rows
def none {H : Type} : Left H := { results := [], args := [] }

/-- 'lwz.LawS4294AModel': WHATEVER THE INPUT: true; the input reads as it did. -/
def lawS4294AModelSpec : ChangeSpec := { name := "lawS4294AModel", fn := fun _ => fun
  | [d1, d2, d3, d4] => { results := [.lit (.bool true)], args := [d1, d2, d3, d4] }
  | _ => none }
def lawS4294AModelRow : OpenClaim := { program := "ybulkcjxe", sum := "58937b1aa8c4519e86db5c623fe9eb3d642e15514031cfa929c43dace454a676", func := "example.com/stamen/stamen/lwz.LawS4294AModel", spec := "lawS4294AModel", named := ["encoding/binary.BigEndian"], apart := false }
def LawS4294AModelSaid : Prop := lawS4294AModelRow.holds Yba.pinned (OpenSpec.ofChange lawS4294AModelSpec)

/-- ITS FALSE NEIGHBOUR: 'it returns false'. Refute it at one input. -/
def lawS4294AModelWrong : ChangeSpec := { name := "lawS4294AModel", fn := fun _ => fun
  | [d1, d2, d3, d4] => { results := [.lit (.bool false)], args := [d1, d2, d3, d4] }
  | _ => none }
def LawS4294AModelWrongFalsely : Prop := lawS4294AModelRow.holds Yba.pinned (OpenSpec.ofChange lawS4294AModelWrong)

end Rows
end Go.Proofs.Ybulkcjxe
