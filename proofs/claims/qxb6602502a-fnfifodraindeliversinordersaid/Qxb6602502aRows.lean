/-
  No cell of these rows narrows 'for every input' (looked for: loops, veiled, ifaces, maps, wideKeys, modest, calm, conditions, laid).
  DERIVED. THE GIVEN ROWS OF THIS SEAT. 4 by the template 'for every input the law returns true; each argument reads behind the call as it read before'; 0 by the template 'total and deterministic' (their statements: Qxb6602502aTotals.lean).
  GIVEN WITH THE SEED: the statements are not yours to turn. If you find one false, say at which input.
  Laid BY PROGRAM, IN A SANDBOX (cutbox-rows.mjs): the forced cells as the released guide's own fill.sh prints them over the translation 3bd09d9bf678b2e5… (all of the seat's roots in one cut). By AI agents, Wed Nov 11 2026. No macro, syntax, notation, axiom, sorry.
-/
import Derived.Test.Qxb6602502aChecked
import GoSem.Claim
import GoSem.ClaimJoined
import GoSem.ClaimMapViews
import Derived.JoinedTies
import Derived.KernelRfl
namespace Go.Proofs.Qxb6602502a
/- THE CELL 'sum', in the pinned program and in every row, IS THE sha256 OF THE DUMP (.gsa) THAT Qxb6602502aProg.lean LOADS. Nothing in Lean hashes anything: it is a label: what it is worth is what the hold of that sum in a sandbox is worth. -/
noncomputable def Try.pinned : Pinned := { name := "qxb6602502a", sum := "3bd09d9bf678b2e53189110fbee6c955ccb03bab7a523d96219816d976d58fb4", checked := Try.checked }
namespace Rows
def none {H : Type} : Left H := { results := [], args := [] }

/-- 'zzlaws_root_b1.FnHandoverFrameExact': WHATEVER THE INPUT: true; the input reads as it did. -/
def fnHandoverFrameExactSpec : ChangeSpec := { name := "fnHandoverFrameExact", fn := fun _ => fun
  | [d1, d2, d3] => { results := [.lit (.bool true)], args := [d1, d2, d3] }
  | _ => none }
def fnHandoverFrameExactRow : OpenClaim := { program := "qxb6602502a", sum := "3bd09d9bf678b2e53189110fbee6c955ccb03bab7a523d96219816d976d58fb4", func := "example.com/attune/attune/zzlaws_root_b1.FnHandoverFrameExact", spec := "fnHandoverFrameExact", apart := false }
def FnHandoverFrameExactSaid : Prop := fnHandoverFrameExactRow.holds Try.pinned (OpenSpec.ofChange fnHandoverFrameExactSpec)

/-- ITS FALSE NEIGHBOUR: 'it returns false'. Refute it at one input. -/
def fnHandoverFrameExactWrong : ChangeSpec := { name := "fnHandoverFrameExact", fn := fun _ => fun
  | [d1, d2, d3] => { results := [.lit (.bool false)], args := [d1, d2, d3] }
  | _ => none }
def FnHandoverFrameExactWrongFalsely : Prop := fnHandoverFrameExactRow.holds Try.pinned (OpenSpec.ofChange fnHandoverFrameExactWrong)

/-- 'zzlaws_root_b1.FnHandoverFrameOwnsItsBody': WHATEVER THE INPUT: true; the input reads as it did. -/
def fnHandoverFrameOwnsItsBodySpec : ChangeSpec := { name := "fnHandoverFrameOwnsItsBody", fn := fun _ => fun
  | [d1, d2, d3] => { results := [.lit (.bool true)], args := [d1, d2, d3] }
  | _ => none }
def fnHandoverFrameOwnsItsBodyRow : OpenClaim := { program := "qxb6602502a", sum := "3bd09d9bf678b2e53189110fbee6c955ccb03bab7a523d96219816d976d58fb4", func := "example.com/attune/attune/zzlaws_root_b1.FnHandoverFrameOwnsItsBody", spec := "fnHandoverFrameOwnsItsBody", apart := false }
def FnHandoverFrameOwnsItsBodySaid : Prop := fnHandoverFrameOwnsItsBodyRow.holds Try.pinned (OpenSpec.ofChange fnHandoverFrameOwnsItsBodySpec)

/-- ITS FALSE NEIGHBOUR: 'it returns false'. Refute it at one input. -/
def fnHandoverFrameOwnsItsBodyWrong : ChangeSpec := { name := "fnHandoverFrameOwnsItsBody", fn := fun _ => fun
  | [d1, d2, d3] => { results := [.lit (.bool false)], args := [d1, d2, d3] }
  | _ => none }
def FnHandoverFrameOwnsItsBodyWrongFalsely : Prop := fnHandoverFrameOwnsItsBodyRow.holds Try.pinned (OpenSpec.ofChange fnHandoverFrameOwnsItsBodyWrong)

/-- 'zzlaws_root_b1.FnFifoNextPopsFront': WHATEVER THE INPUT: true; the input reads as it did. -/
def fnFifoNextPopsFrontSpec : ChangeSpec := { name := "fnFifoNextPopsFront", fn := fun _ => fun
  | [d1, d2] => { results := [.lit (.bool true)], args := [d1, d2] }
  | _ => none }
def fnFifoNextPopsFrontRow : OpenClaim := { program := "qxb6602502a", sum := "3bd09d9bf678b2e53189110fbee6c955ccb03bab7a523d96219816d976d58fb4", func := "example.com/attune/attune/zzlaws_root_b1.FnFifoNextPopsFront", spec := "fnFifoNextPopsFront", apart := false }
def FnFifoNextPopsFrontSaid : Prop := fnFifoNextPopsFrontRow.holds Try.pinned (OpenSpec.ofChange fnFifoNextPopsFrontSpec)

/-- ITS FALSE NEIGHBOUR: 'it returns false'. Refute it at one input. -/
def fnFifoNextPopsFrontWrong : ChangeSpec := { name := "fnFifoNextPopsFront", fn := fun _ => fun
  | [d1, d2] => { results := [.lit (.bool false)], args := [d1, d2] }
  | _ => none }
def FnFifoNextPopsFrontWrongFalsely : Prop := fnFifoNextPopsFrontRow.holds Try.pinned (OpenSpec.ofChange fnFifoNextPopsFrontWrong)

/-- 'zzlaws_root_b1.FnFifoDrainDeliversInOrder': WHATEVER THE INPUT: true; the input reads as it did. -/
def fnFifoDrainDeliversInOrderSpec : ChangeSpec := { name := "fnFifoDrainDeliversInOrder", fn := fun _ => fun
  | [d1, d2] => { results := [.lit (.bool true)], args := [d1, d2] }
  | _ => none }
def fnFifoDrainDeliversInOrderRow : OpenClaim := { program := "qxb6602502a", sum := "3bd09d9bf678b2e53189110fbee6c955ccb03bab7a523d96219816d976d58fb4", func := "example.com/attune/attune/zzlaws_root_b1.FnFifoDrainDeliversInOrder", spec := "fnFifoDrainDeliversInOrder", apart := false }
def FnFifoDrainDeliversInOrderSaid : Prop := fnFifoDrainDeliversInOrderRow.holds Try.pinned (OpenSpec.ofChange fnFifoDrainDeliversInOrderSpec)

/-- ITS FALSE NEIGHBOUR: 'it returns false'. Refute it at one input. -/
def fnFifoDrainDeliversInOrderWrong : ChangeSpec := { name := "fnFifoDrainDeliversInOrder", fn := fun _ => fun
  | [d1, d2] => { results := [.lit (.bool false)], args := [d1, d2] }
  | _ => none }
def FnFifoDrainDeliversInOrderWrongFalsely : Prop := fnFifoDrainDeliversInOrderRow.holds Try.pinned (OpenSpec.ofChange fnFifoDrainDeliversInOrderWrong)

end Rows
end Go.Proofs.Qxb6602502a
