/-
  No cell of these rows narrows 'for every input' (looked for: loops, veiled, ifaces, maps, wideKeys, modest, calm, conditions, laid).
  DERIVED. THE GIVEN ROWS OF THIS SEAT. 3 by the template 'for every input the law returns true; each argument reads behind the call as it read before'; 0 by the template 'total and deterministic' (their statements: YbulkcjygTotals.lean).
  GIVEN WITH THE SEED: the statements are not yours to turn. If you find one false, say at which input.
  Laid BY PROGRAM, IN A SANDBOX (cutbox-rows.mjs): the forced cells as the released guide's own fill.sh prints them over the translation 383383b6534011c5… (all of the seat's roots in one cut). By AI agents, Wed Nov 11 2026. No macro, syntax, notation, axiom, sorry.
-/
import Derived.Test.YbulkcjygChecked
import GoSem.Claim
import GoSem.ClaimJoined
import GoSem.ClaimMapViews
import Derived.JoinedTies
import Derived.KernelRfl
namespace Go.Proofs.Ybulkcjyg
/- THE CELL 'sum', in the pinned program and in every row, IS THE sha256 OF THE DUMP (.gsa) THAT YbulkcjygProg.lean LOADS. Nothing in Lean hashes anything: it is a label: what it is worth is what the hold of that sum in a sandbox is worth. -/
noncomputable def Yba.pinned : Pinned := { name := "ybulkcjyg", sum := "383383b6534011c55811742d8529184b4afd557d4f1f3b3c3bc3c11880ec8b38", checked := Yba.checked }
namespace Rows
def none {H : Type} : Left H := { results := [], args := [] }

/-- 'sql.LawS4296AModel': WHATEVER THE INPUT: true; the input reads as it did. -/
def lawS4296AModelSpec : ChangeSpec := { name := "lawS4296AModel", fn := fun _ => fun
  | [d] => { results := [.lit (.bool true)], args := [d] }
  | _ => none }
def lawS4296AModelRow : OpenClaim := { program := "ybulkcjyg", sum := "383383b6534011c55811742d8529184b4afd557d4f1f3b3c3bc3c11880ec8b38", func := "example.com/keyfence/keyfence/internal/sql.LawS4296AModel", spec := "lawS4296AModel", plainKeys := false, apart := false }
def LawS4296AModelSaid : Prop := lawS4296AModelRow.holds Yba.pinned (OpenSpec.ofChange lawS4296AModelSpec)

/-- ITS FALSE NEIGHBOUR: 'it returns false'. Refute it at one input. -/
def lawS4296AModelWrong : ChangeSpec := { name := "lawS4296AModel", fn := fun _ => fun
  | [d] => { results := [.lit (.bool false)], args := [d] }
  | _ => none }
def LawS4296AModelWrongFalsely : Prop := lawS4296AModelRow.holds Yba.pinned (OpenSpec.ofChange lawS4296AModelWrong)

/-- 'sql.LawS4296ARoundTrip': WHATEVER THE INPUT: true; the input reads as it did. -/
def lawS4296ARoundTripSpec : ChangeSpec := { name := "lawS4296ARoundTrip", fn := fun _ => fun
  | [d1, d2] => { results := [.lit (.bool true)], args := [d1, d2] }
  | _ => none }
def lawS4296ARoundTripRow : OpenClaim := { program := "ybulkcjyg", sum := "383383b6534011c55811742d8529184b4afd557d4f1f3b3c3bc3c11880ec8b38", func := "example.com/keyfence/keyfence/internal/sql.LawS4296ARoundTrip", spec := "lawS4296ARoundTrip", plainKeys := false, apart := false }
def LawS4296ARoundTripSaid : Prop := lawS4296ARoundTripRow.holds Yba.pinned (OpenSpec.ofChange lawS4296ARoundTripSpec)

/-- ITS FALSE NEIGHBOUR: 'it returns false'. Refute it at one input. -/
def lawS4296ARoundTripWrong : ChangeSpec := { name := "lawS4296ARoundTrip", fn := fun _ => fun
  | [d1, d2] => { results := [.lit (.bool false)], args := [d1, d2] }
  | _ => none }
def LawS4296ARoundTripWrongFalsely : Prop := lawS4296ARoundTripRow.holds Yba.pinned (OpenSpec.ofChange lawS4296ARoundTripWrong)

/-- 'keyfence.LawS4296CAdd': WHATEVER THE INPUT: true; the input reads as it did. -/
def lawS4296CAddSpec : ChangeSpec := { name := "lawS4296CAdd", fn := fun _ => fun
  | [d1, d2, d3, d4, d5, d6, d7, d8, d9] => { results := [.lit (.bool true)], args := [d1, d2, d3, d4, d5, d6, d7, d8, d9] }
  | _ => none }
def lawS4296CAddRow : OpenClaim := { program := "ybulkcjyg", sum := "383383b6534011c55811742d8529184b4afd557d4f1f3b3c3bc3c11880ec8b38", func := "example.com/keyfence/keyfence.LawS4296CAdd", spec := "lawS4296CAdd", plainKeys := false, apart := false }
def LawS4296CAddSaid : Prop := lawS4296CAddRow.holds Yba.pinned (OpenSpec.ofChange lawS4296CAddSpec)

/-- ITS FALSE NEIGHBOUR: 'it returns false'. Refute it at one input. -/
def lawS4296CAddWrong : ChangeSpec := { name := "lawS4296CAdd", fn := fun _ => fun
  | [d1, d2, d3, d4, d5, d6, d7, d8, d9] => { results := [.lit (.bool false)], args := [d1, d2, d3, d4, d5, d6, d7, d8, d9] }
  | _ => none }
def LawS4296CAddWrongFalsely : Prop := lawS4296CAddRow.holds Yba.pinned (OpenSpec.ofChange lawS4296CAddWrong)

end Rows
end Go.Proofs.Ybulkcjyg
