/-
  No cell of these rows narrows 'for every input' (looked for: loops, veiled, ifaces, maps, wideKeys, modest, calm, conditions, laid).
  DERIVED. THE GIVEN ROWS OF THIS SEAT. 2 by the template 'for every input the law returns true; each argument reads behind the call as it read before'; 0 by the template 'total and deterministic' (their statements: YbulkcnqTotals.lean).
  GIVEN WITH THE SEED: the statements are not yours to turn. If you find one false, say at which input.
  Laid BY PROGRAM, IN A SANDBOX (cutbox-rows.mjs): the forced cells as the released guide's own fill.sh prints them over the translation 3e26d4eb70ca60ca… (all of the seat's roots in one cut). By AI agents, Wed Nov 11 2026. No macro, syntax, notation, axiom, sorry.
-/
import Derived.Test.YbulkcnqChecked
import GoSem.Claim
import GoSem.ClaimJoined
import GoSem.ClaimMapViews
import Derived.JoinedTies
import Derived.KernelRfl
namespace Go.Proofs.Ybulkcnq
/- THE CELL 'sum', in the pinned program and in every row, IS THE sha256 OF THE DUMP (.gsa) THAT YbulkcnqProg.lean LOADS. Nothing in Lean hashes anything: it is a label: what it is worth is what the hold of that sum in a sandbox is worth. -/
noncomputable def Yba.pinned : Pinned := { name := "ybulkcnq", sum := "3e26d4eb70ca60cae0476c7d3b6c562bc4f8e5b70e2ab13d7d3778998fa85446", checked := Yba.checked }
namespace Rows
def none {H : Type} : Left H := { results := [], args := [] }

/-- 'placement.LawS0172AAddsBelow': WHATEVER THE INPUT: true; the input reads as it did. -/
def lawS0172AAddsBelowSpec : ChangeSpec := { name := "lawS0172AAddsBelow", fn := fun _ => fun
  | [d1, d2] => { results := [.lit (.bool true)], args := [d1, d2] }
  | _ => none }
def lawS0172AAddsBelowRow : OpenClaim := { program := "ybulkcnq", sum := "3e26d4eb70ca60cae0476c7d3b6c562bc4f8e5b70e2ab13d7d3778998fa85446", func := "example.com/ringsmith/ringsmith/placement.LawS0172AAddsBelow", spec := "lawS0172AAddsBelow", recurses := true, apart := false }
def LawS0172AAddsBelowSaid : Prop := lawS0172AAddsBelowRow.holds Yba.pinned (OpenSpec.ofChange lawS0172AAddsBelowSpec)

/-- ITS FALSE NEIGHBOUR: 'it returns false'. Refute it at one input. -/
def lawS0172AAddsBelowWrong : ChangeSpec := { name := "lawS0172AAddsBelow", fn := fun _ => fun
  | [d1, d2] => { results := [.lit (.bool false)], args := [d1, d2] }
  | _ => none }
def LawS0172AAddsBelowWrongFalsely : Prop := lawS0172AAddsBelowRow.holds Yba.pinned (OpenSpec.ofChange lawS0172AAddsBelowWrong)

/-- 'placement.LawS0172AIdempotent': WHATEVER THE INPUT: true; the input reads as it did. -/
def lawS0172AIdempotentSpec : ChangeSpec := { name := "lawS0172AIdempotent", fn := fun _ => fun
  | [d] => { results := [.lit (.bool true)], args := [d] }
  | _ => none }
def lawS0172AIdempotentRow : OpenClaim := { program := "ybulkcnq", sum := "3e26d4eb70ca60cae0476c7d3b6c562bc4f8e5b70e2ab13d7d3778998fa85446", func := "example.com/ringsmith/ringsmith/placement.LawS0172AIdempotent", spec := "lawS0172AIdempotent", recurses := true, apart := false }
def LawS0172AIdempotentSaid : Prop := lawS0172AIdempotentRow.holds Yba.pinned (OpenSpec.ofChange lawS0172AIdempotentSpec)

/-- ITS FALSE NEIGHBOUR: 'it returns false'. Refute it at one input. -/
def lawS0172AIdempotentWrong : ChangeSpec := { name := "lawS0172AIdempotent", fn := fun _ => fun
  | [d] => { results := [.lit (.bool false)], args := [d] }
  | _ => none }
def LawS0172AIdempotentWrongFalsely : Prop := lawS0172AIdempotentRow.holds Yba.pinned (OpenSpec.ofChange lawS0172AIdempotentWrong)

end Rows
end Go.Proofs.Ybulkcnq
