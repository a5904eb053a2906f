/-
  No cell of these rows narrows 'for every input' (looked for: loops, veiled, ifaces, maps, wideKeys, modest, calm, conditions, laid).
  DERIVED. THE GIVEN ROWS OF THIS SEAT. 2 by the template 'for every input the law returns true; each argument reads behind the call as it read before'; 0 by the template 'total and deterministic' (their statements: YbulkcpgTotals.lean).
  GIVEN WITH THE SEED: the statements are not yours to turn. If you find one false, say at which input.
  Laid BY PROGRAM, IN A SANDBOX (cutbox-rows.mjs): the forced cells as the released guide's own fill.sh prints them over the translation 02eda48a3ba2bbf8… (all of the seat's roots in one cut). By AI agents, Wed Nov 11 2026. No macro, syntax, notation, axiom, sorry.
-/
import Derived.Test.YbulkcpgChecked
import GoSem.Claim
import GoSem.ClaimJoined
import GoSem.ClaimMapViews
import Derived.JoinedTies
import Derived.KernelRfl
namespace Go.Proofs.Ybulkcpg
/- THE CELL 'sum', in the pinned program and in every row, IS THE sha256 OF THE DUMP (.gsa) THAT YbulkcpgProg.lean LOADS. Nothing in Lean hashes anything: it is a label: what it is worth is what the hold of that sum in a sandbox is worth. -/
noncomputable def Yba.pinned : Pinned := { name := "ybulkcpg", sum := "02eda48a3ba2bbf8297110518f2b640bab8f6a97d631bdbed2f3db5f18191647", checked := Yba.checked }
namespace Rows
def none {H : Type} : Left H := { results := [], args := [] }

/-- 'flow.LawS0175AExact': WHATEVER THE INPUT: true; the input reads as it did. -/
def lawS0175AExactSpec : ChangeSpec := { name := "lawS0175AExact", fn := fun _ => fun
  | [d1, d2] => { results := [.lit (.bool true)], args := [d1, d2] }
  | _ => none }
def lawS0175AExactRow : OpenClaim := { program := "ybulkcpg", sum := "02eda48a3ba2bbf8297110518f2b640bab8f6a97d631bdbed2f3db5f18191647", func := "example.com/bytecadence/bytecadence/internal/flow.LawS0175AExact", spec := "lawS0175AExact", apart := false }
def LawS0175AExactSaid : Prop := lawS0175AExactRow.holds Yba.pinned (OpenSpec.ofChange lawS0175AExactSpec)

/-- ITS FALSE NEIGHBOUR: 'it returns false'. Refute it at one input. -/
def lawS0175AExactWrong : ChangeSpec := { name := "lawS0175AExact", fn := fun _ => fun
  | [d1, d2] => { results := [.lit (.bool false)], args := [d1, d2] }
  | _ => none }
def LawS0175AExactWrongFalsely : Prop := lawS0175AExactRow.holds Yba.pinned (OpenSpec.ofChange lawS0175AExactWrong)

/-- 'flow.LawS0175AScript': WHATEVER THE INPUT: true; the input reads as it did. -/
def lawS0175AScriptSpec : ChangeSpec := { name := "lawS0175AScript", fn := fun _ => fun
  | [d1, d2] => { results := [.lit (.bool true)], args := [d1, d2] }
  | _ => none }
def lawS0175AScriptRow : OpenClaim := { program := "ybulkcpg", sum := "02eda48a3ba2bbf8297110518f2b640bab8f6a97d631bdbed2f3db5f18191647", func := "example.com/bytecadence/bytecadence/internal/flow.LawS0175AScript", spec := "lawS0175AScript", apart := false }
def LawS0175AScriptSaid : Prop := lawS0175AScriptRow.holds Yba.pinned (OpenSpec.ofChange lawS0175AScriptSpec)

/-- ITS FALSE NEIGHBOUR: 'it returns false'. Refute it at one input. -/
def lawS0175AScriptWrong : ChangeSpec := { name := "lawS0175AScript", fn := fun _ => fun
  | [d1, d2] => { results := [.lit (.bool false)], args := [d1, d2] }
  | _ => none }
def LawS0175AScriptWrongFalsely : Prop := lawS0175AScriptRow.holds Yba.pinned (OpenSpec.ofChange lawS0175AScriptWrong)

end Rows
end Go.Proofs.Ybulkcpg
