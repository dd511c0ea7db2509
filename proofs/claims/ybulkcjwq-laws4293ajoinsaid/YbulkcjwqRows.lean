/-
  No cell of these rows narrows 'for every input' (looked for: loops, veiled, ifaces, maps, wideKeys, modest, calm, conditions, laid).
  DERIVED. THE GIVEN ROWS OF THIS SEAT. 2 by the template 'for every input the law returns true; each argument reads behind the call as it read before'; 0 by the template 'total and deterministic' (their statements: YbulkcjwqTotals.lean).
  GIVEN WITH THE SEED: the statements are not yours to turn. If you find one false, say at which input.
  Laid BY PROGRAM, IN A SANDBOX (cutbox-rows.mjs): the forced cells as the released guide's own fill.sh prints them over the translation 50dea64a44690471… (all of the seat's roots in one cut). By AI agents, Wed Nov 11 2026. No macro, syntax, notation, axiom, sorry.
-/
import Derived.Test.YbulkcjwqChecked
import GoSem.Claim
import GoSem.ClaimJoined
import GoSem.ClaimMapViews
import Derived.JoinedTies
import Derived.KernelRfl
namespace Go.Proofs.Ybulkcjwq
/- THE CELL 'sum', in the pinned program and in every row, IS THE sha256 OF THE DUMP (.gsa) THAT YbulkcjwqProg.lean LOADS. Nothing in Lean hashes anything: it is a label: what it is worth is what the hold of that sum in a sandbox is worth. -/
noncomputable def Yba.pinned : Pinned := { name := "ybulkcjwq", sum := "50dea64a4469047191e8b4f0f4702a4b0bf8180f68a6ccee0d3324df220da4db", checked := Yba.checked }
namespace Rows
def none {H : Type} : Left H := { results := [], args := [] }

/-- 'ledger.LawS4293AJoin': WHATEVER THE INPUT: true; the input reads as it did. -/
def lawS4293AJoinSpec : ChangeSpec := { name := "lawS4293AJoin", fn := fun _ => fun
  | [d1, d2, d3] => { results := [.lit (.bool true)], args := [d1, d2, d3] }
  | _ => none }
def lawS4293AJoinRow : OpenClaim := { program := "ybulkcjwq", sum := "50dea64a4469047191e8b4f0f4702a4b0bf8180f68a6ccee0d3324df220da4db", func := "example.com/earnest/earnest/ledger.LawS4293AJoin", spec := "lawS4293AJoin", inPlace := ["math/bits.Add64", "math/big.addVV", "math/big.subVV", "math/bits.Sub64"], recurses := true, plainKeys := false, apart := false }
def LawS4293AJoinSaid : Prop := lawS4293AJoinRow.holds Yba.pinned (OpenSpec.ofChange lawS4293AJoinSpec)

/-- ITS FALSE NEIGHBOUR: 'it returns false'. Refute it at one input. -/
def lawS4293AJoinWrong : ChangeSpec := { name := "lawS4293AJoin", fn := fun _ => fun
  | [d1, d2, d3] => { results := [.lit (.bool false)], args := [d1, d2, d3] }
  | _ => none }
def LawS4293AJoinWrongFalsely : Prop := lawS4293AJoinRow.holds Yba.pinned (OpenSpec.ofChange lawS4293AJoinWrong)

/-- 'protocol.LawS4293BNewest': WHATEVER THE INPUT: true; the input reads as it did. -/
def lawS4293BNewestSpec : ChangeSpec := { name := "lawS4293BNewest", fn := fun _ => fun
  | [d1, d2, d3] => { results := [.lit (.bool true)], args := [d1, d2, d3] }
  | _ => none }
def lawS4293BNewestRow : OpenClaim := { program := "ybulkcjwq", sum := "50dea64a4469047191e8b4f0f4702a4b0bf8180f68a6ccee0d3324df220da4db", func := "example.com/earnest/earnest/protocol.LawS4293BNewest", spec := "lawS4293BNewest", plainKeys := false, apart := false }
def LawS4293BNewestSaid : Prop := lawS4293BNewestRow.holds Yba.pinned (OpenSpec.ofChange lawS4293BNewestSpec)

/-- ITS FALSE NEIGHBOUR: 'it returns false'. Refute it at one input. -/
def lawS4293BNewestWrong : ChangeSpec := { name := "lawS4293BNewest", fn := fun _ => fun
  | [d1, d2, d3] => { results := [.lit (.bool false)], args := [d1, d2, d3] }
  | _ => none }
def LawS4293BNewestWrongFalsely : Prop := lawS4293BNewestRow.holds Yba.pinned (OpenSpec.ofChange lawS4293BNewestWrong)

end Rows
end Go.Proofs.Ybulkcjwq
