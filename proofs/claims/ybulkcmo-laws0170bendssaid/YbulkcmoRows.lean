/-
  No cell of these rows narrows 'for every input' (looked for: loops, veiled, ifaces, maps, wideKeys, modest, calm, conditions, laid).
  DERIVED. THE GIVEN ROWS OF THIS SEAT. 2 by the template 'for every input the law returns true; each argument reads behind the call as it read before'; 0 by the template 'total and deterministic' (their statements: YbulkcmoTotals.lean).
  GIVEN WITH THE SEED: the statements are not yours to turn. If you find one false, say at which input.
  Laid BY PROGRAM, IN A SANDBOX (cutbox-rows.mjs): the forced cells as the released guide's own fill.sh prints them over the translation fced6053b45473d5… (all of the seat's roots in one cut). By AI agents, Wed Nov 11 2026. No macro, syntax, notation, axiom, sorry.
-/
import Derived.Test.YbulkcmoChecked
import GoSem.Claim
import GoSem.ClaimJoined
import GoSem.ClaimMapViews
import Derived.JoinedTies
import Derived.KernelRfl
namespace Go.Proofs.Ybulkcmo
/- THE CELL 'sum', in the pinned program and in every row, IS THE sha256 OF THE DUMP (.gsa) THAT YbulkcmoProg.lean LOADS. Nothing in Lean hashes anything: it is a label: what it is worth is what the hold of that sum in a sandbox is worth. -/
noncomputable def Yba.pinned : Pinned := { name := "ybulkcmo", sum := "fced6053b45473d592a604d096e2d413e40bd6b1c7514d350f3aff13022101f9", checked := Yba.checked }
namespace Rows
def none {H : Type} : Left H := { results := [], args := [] }

/-- 'lines.LawS0170BEnds': WHATEVER THE INPUT: true; the input reads as it did. -/
def lawS0170BEndsSpec : ChangeSpec := { name := "lawS0170BEnds", fn := fun _ => fun
  | [d1, d2, d3, d4, d5] => { results := [.lit (.bool true)], args := [d1, d2, d3, d4, d5] }
  | _ => none }
def lawS0170BEndsRow : OpenClaim := { program := "ybulkcmo", sum := "fced6053b45473d592a604d096e2d413e40bd6b1c7514d350f3aff13022101f9", func := "marooned.example/marooned/internal/lines.LawS0170BEnds", spec := "lawS0170BEnds", unfollowed := true, recurses := true, plainKeys := false, apart := false }
def LawS0170BEndsSaid : Prop := lawS0170BEndsRow.holds Yba.pinned (OpenSpec.ofChange lawS0170BEndsSpec)

/-- ITS FALSE NEIGHBOUR: 'it returns false'. Refute it at one input. -/
def lawS0170BEndsWrong : ChangeSpec := { name := "lawS0170BEnds", fn := fun _ => fun
  | [d1, d2, d3, d4, d5] => { results := [.lit (.bool false)], args := [d1, d2, d3, d4, d5] }
  | _ => none }
def LawS0170BEndsWrongFalsely : Prop := lawS0170BEndsRow.holds Yba.pinned (OpenSpec.ofChange lawS0170BEndsWrong)

/-- 'lines.LawS0170BCached': WHATEVER THE INPUT: true; the input reads as it did. -/
def lawS0170BCachedSpec : ChangeSpec := { name := "lawS0170BCached", fn := fun _ => fun
  | [d1, d2, d3, d4, d5, d6] => { results := [.lit (.bool true)], args := [d1, d2, d3, d4, d5, d6] }
  | _ => none }
def lawS0170BCachedRow : OpenClaim := { program := "ybulkcmo", sum := "fced6053b45473d592a604d096e2d413e40bd6b1c7514d350f3aff13022101f9", func := "marooned.example/marooned/internal/lines.LawS0170BCached", spec := "lawS0170BCached", unfollowed := true, recurses := true, plainKeys := false, apart := false }
def LawS0170BCachedSaid : Prop := lawS0170BCachedRow.holds Yba.pinned (OpenSpec.ofChange lawS0170BCachedSpec)

/-- ITS FALSE NEIGHBOUR: 'it returns false'. Refute it at one input. -/
def lawS0170BCachedWrong : ChangeSpec := { name := "lawS0170BCached", fn := fun _ => fun
  | [d1, d2, d3, d4, d5, d6] => { results := [.lit (.bool false)], args := [d1, d2, d3, d4, d5, d6] }
  | _ => none }
def LawS0170BCachedWrongFalsely : Prop := lawS0170BCachedRow.holds Yba.pinned (OpenSpec.ofChange lawS0170BCachedWrong)

end Rows
end Go.Proofs.Ybulkcmo
