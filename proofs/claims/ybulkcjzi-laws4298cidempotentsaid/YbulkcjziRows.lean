/-
  No cell of these rows narrows 'for every input' (looked for: loops, veiled, ifaces, maps, wideKeys, modest, calm, conditions, laid).
  DERIVED. THE GIVEN ROWS OF THIS SEAT. 2 by the template 'for every input the law returns true; each argument reads behind the call as it read before'; 0 by the template 'total and deterministic' (their statements: YbulkcjziTotals.lean).
  GIVEN WITH THE SEED: the statements are not yours to turn. If you find one false, say at which input.
  Laid BY PROGRAM, IN A SANDBOX (cutbox-rows.mjs): the forced cells as the released guide's own fill.sh prints them over the translation 873df1a805fabc4f… (all of the seat's roots in one cut). By AI agents, Wed Nov 11 2026. No macro, syntax, notation, axiom, sorry.
-/
import Derived.Test.YbulkcjziChecked
import GoSem.Claim
import GoSem.ClaimJoined
import GoSem.ClaimMapViews
import Derived.JoinedTies
import Derived.KernelRfl
namespace Go.Proofs.Ybulkcjzi
/- THE CELL 'sum', in the pinned program and in every row, IS THE sha256 OF THE DUMP (.gsa) THAT YbulkcjziProg.lean LOADS. Nothing in Lean hashes anything: it is a label: what it is worth is what the hold of that sum in a sandbox is worth. -/
noncomputable def Yba.pinned : Pinned := { name := "ybulkcjzi", sum := "873df1a805fabc4f80b63627174ab27eab6ddad339e13f1e9049c30596ee731b", checked := Yba.checked }
namespace Rows
def none {H : Type} : Left H := { results := [], args := [] }

/-- 'wardtree.LawS4298CResolve': WHATEVER THE INPUT: true; the input reads as it did. -/
def lawS4298CResolveSpec : ChangeSpec := { name := "lawS4298CResolve", fn := fun _ => fun
  | [d1, d2, d3, d4, d5, d6, d7, d8] => { results := [.lit (.bool true)], args := [d1, d2, d3, d4, d5, d6, d7, d8] }
  | _ => none }
def lawS4298CResolveRow : OpenClaim := { program := "ybulkcjzi", sum := "873df1a805fabc4f80b63627174ab27eab6ddad339e13f1e9049c30596ee731b", func := "example.com/wardtree/wardtree.LawS4298CResolve", spec := "lawS4298CResolve", apart := false }
def LawS4298CResolveSaid : Prop := lawS4298CResolveRow.holds Yba.pinned (OpenSpec.ofChange lawS4298CResolveSpec)

/-- ITS FALSE NEIGHBOUR: 'it returns false'. Refute it at one input. -/
def lawS4298CResolveWrong : ChangeSpec := { name := "lawS4298CResolve", fn := fun _ => fun
  | [d1, d2, d3, d4, d5, d6, d7, d8] => { results := [.lit (.bool false)], args := [d1, d2, d3, d4, d5, d6, d7, d8] }
  | _ => none }
def LawS4298CResolveWrongFalsely : Prop := lawS4298CResolveRow.holds Yba.pinned (OpenSpec.ofChange lawS4298CResolveWrong)

/-- 'wardtree.LawS4298CIdempotent': WHATEVER THE INPUT: true; the input reads as it did. -/
def lawS4298CIdempotentSpec : ChangeSpec := { name := "lawS4298CIdempotent", fn := fun _ => fun
  | [d1, d2, d3, d4, d5, d6, d7, d8, d9] => { results := [.lit (.bool true)], args := [d1, d2, d3, d4, d5, d6, d7, d8, d9] }
  | _ => none }
def lawS4298CIdempotentRow : OpenClaim := { program := "ybulkcjzi", sum := "873df1a805fabc4f80b63627174ab27eab6ddad339e13f1e9049c30596ee731b", func := "example.com/wardtree/wardtree.LawS4298CIdempotent", spec := "lawS4298CIdempotent", apart := false }
def LawS4298CIdempotentSaid : Prop := lawS4298CIdempotentRow.holds Yba.pinned (OpenSpec.ofChange lawS4298CIdempotentSpec)

/-- ITS FALSE NEIGHBOUR: 'it returns false'. Refute it at one input. -/
def lawS4298CIdempotentWrong : ChangeSpec := { name := "lawS4298CIdempotent", fn := fun _ => fun
  | [d1, d2, d3, d4, d5, d6, d7, d8, d9] => { results := [.lit (.bool false)], args := [d1, d2, d3, d4, d5, d6, d7, d8, d9] }
  | _ => none }
def LawS4298CIdempotentWrongFalsely : Prop := lawS4298CIdempotentRow.holds Yba.pinned (OpenSpec.ofChange lawS4298CIdempotentWrong)

end Rows
end Go.Proofs.Ybulkcjzi
