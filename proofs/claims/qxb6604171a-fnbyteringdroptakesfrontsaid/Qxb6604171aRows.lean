/-
  No cell of these rows narrows 'for every input' (looked for: loops, veiled, ifaces, maps, wideKeys, modest, calm, conditions, laid).
  DERIVED. THE GIVEN ROWS OF THIS SEAT. 2 by the template 'for every input the law returns true; each argument reads behind the call as it read before'; 0 by the template 'total and deterministic' (their statements: Qxb6604171aTotals.lean).
  GIVEN WITH THE SEED: the statements are not yours to turn. If you find one false, say at which input.
  Laid BY PROGRAM, IN A SANDBOX (cutbox-rows.mjs): the forced cells as the released guide's own fill.sh prints them over the translation 3f9c6e5cc4dcf573… (all of the seat's roots in one cut). By AI agents, Wed Nov 11 2026. No macro, syntax, notation, axiom, sorry.
-/
import Derived.Test.Qxb6604171aChecked
import GoSem.Claim
import GoSem.ClaimJoined
import GoSem.ClaimMapViews
import Derived.JoinedTies
import Derived.KernelRfl
namespace Go.Proofs.Qxb6604171a
/- THE CELL 'sum', in the pinned program and in every row, IS THE sha256 OF THE DUMP (.gsa) THAT Qxb6604171aProg.lean LOADS. Nothing in Lean hashes anything: it is a label: what it is worth is what the hold of that sum in a sandbox is worth. -/
noncomputable def Try.pinned : Pinned := { name := "qxb6604171a", sum := "3f9c6e5cc4dcf5734a5325c600cb82b1425fd3b7dc5cdc2da974cd687997574e", checked := Try.checked }
namespace Rows
def none {H : Type} : Left H := { results := [], args := [] }

/-- 'zzlaws_root_b1.FnCommandKeySecondField': WHATEVER THE INPUT: true; the input reads as it did. -/
def fnCommandKeySecondFieldSpec : ChangeSpec := { name := "fnCommandKeySecondField", fn := fun _ => fun
  | [d] => { results := [.lit (.bool true)], args := [d] }
  | _ => none }
def fnCommandKeySecondFieldRow : OpenClaim := { program := "qxb6604171a", sum := "3f9c6e5cc4dcf5734a5325c600cb82b1425fd3b7dc5cdc2da974cd687997574e", func := "example.com/coterie/coterie/zzlaws_root_b1.FnCommandKeySecondField", spec := "fnCommandKeySecondField", apart := false }
def FnCommandKeySecondFieldSaid : Prop := fnCommandKeySecondFieldRow.holds Try.pinned (OpenSpec.ofChange fnCommandKeySecondFieldSpec)

/-- ITS FALSE NEIGHBOUR: 'it returns false'. Refute it at one input. -/
def fnCommandKeySecondFieldWrong : ChangeSpec := { name := "fnCommandKeySecondField", fn := fun _ => fun
  | [d] => { results := [.lit (.bool false)], args := [d] }
  | _ => none }
def FnCommandKeySecondFieldWrongFalsely : Prop := fnCommandKeySecondFieldRow.holds Try.pinned (OpenSpec.ofChange fnCommandKeySecondFieldWrong)

/-- 'zzlaws_root_b1.FnByteRingDropTakesFront': WHATEVER THE INPUT: true; the input reads as it did. -/
def fnByteRingDropTakesFrontSpec : ChangeSpec := { name := "fnByteRingDropTakesFront", fn := fun _ => fun
  | [d1, d2, d3, d4] => { results := [.lit (.bool true)], args := [d1, d2, d3, d4] }
  | _ => none }
def fnByteRingDropTakesFrontRow : OpenClaim := { program := "qxb6604171a", sum := "3f9c6e5cc4dcf5734a5325c600cb82b1425fd3b7dc5cdc2da974cd687997574e", func := "example.com/coterie/coterie/zzlaws_root_b1.FnByteRingDropTakesFront", spec := "fnByteRingDropTakesFront", apart := false }
def FnByteRingDropTakesFrontSaid : Prop := fnByteRingDropTakesFrontRow.holds Try.pinned (OpenSpec.ofChange fnByteRingDropTakesFrontSpec)

/-- ITS FALSE NEIGHBOUR: 'it returns false'. Refute it at one input. -/
def fnByteRingDropTakesFrontWrong : ChangeSpec := { name := "fnByteRingDropTakesFront", fn := fun _ => fun
  | [d1, d2, d3, d4] => { results := [.lit (.bool false)], args := [d1, d2, d3, d4] }
  | _ => none }
def FnByteRingDropTakesFrontWrongFalsely : Prop := fnByteRingDropTakesFrontRow.holds Try.pinned (OpenSpec.ofChange fnByteRingDropTakesFrontWrong)

end Rows
end Go.Proofs.Qxb6604171a
