/-
  No cell of these rows narrows 'for every input' (looked for: loops, veiled, ifaces, maps, wideKeys, modest, calm, conditions, laid).
  DERIVED. THE GIVEN ROWS OF THIS SEAT. 1 by the template 'for every input the law returns true; each argument reads behind the call as it read before'; 0 by the template 'total and deterministic' (their statements: Qxb6618382aTotals.lean).
  GIVEN WITH THE SEED: the statements are not yours to turn. If you find one false, say at which input.
  Laid BY PROGRAM, IN A SANDBOX (cutbox-rows.mjs): the forced cells as the released guide's own fill.sh prints them over the translation 30d9157c9c0c7a86… (all of the seat's roots in one cut). By AI agents, Wed Nov 11 2026. No macro, syntax, notation, axiom, sorry.
-/
import Derived.Test.Qxb6618382aChecked
import GoSem.Claim
import GoSem.ClaimJoined
import GoSem.ClaimMapViews
import Derived.JoinedTies
import Derived.KernelRfl
namespace Go.Proofs.Qxb6618382a
/- THE CELL 'sum', in the pinned program and in every row, IS THE sha256 OF THE DUMP (.gsa) THAT Qxb6618382aProg.lean LOADS. Nothing in Lean hashes anything: it is a label: what it is worth is what the hold of that sum in a sandbox is worth. -/
noncomputable def Try.pinned : Pinned := { name := "qxb6618382a", sum := "30d9157c9c0c7a867bc7e8c81dd9e19db81534449594bf2c093b589d89bec4e1", checked := Try.checked }
namespace Rows
def none {H : Type} : Left H := { results := [], args := [] }

/-- 'zzlaws_root_b1.FnSlotKeyKeepsLowBitsAndMarksTop': WHATEVER THE INPUT: true; the input reads as it did. -/
def fnSlotKeyKeepsLowBitsAndMarksTopSpec : ChangeSpec := { name := "fnSlotKeyKeepsLowBitsAndMarksTop", fn := fun _ => fun
  | [d1, d2] => { results := [.lit (.bool true)], args := [d1, d2] }
  | _ => none }
def fnSlotKeyKeepsLowBitsAndMarksTopRow : OpenClaim := { program := "qxb6618382a", sum := "30d9157c9c0c7a867bc7e8c81dd9e19db81534449594bf2c093b589d89bec4e1", func := "example.com/latchwork/latchwork/zzlaws_root_b1.FnSlotKeyKeepsLowBitsAndMarksTop", spec := "fnSlotKeyKeepsLowBitsAndMarksTop", apart := false }
def FnSlotKeyKeepsLowBitsAndMarksTopSaid : Prop := fnSlotKeyKeepsLowBitsAndMarksTopRow.holds Try.pinned (OpenSpec.ofChange fnSlotKeyKeepsLowBitsAndMarksTopSpec)

/-- ITS FALSE NEIGHBOUR: 'it returns false'. Refute it at one input. -/
def fnSlotKeyKeepsLowBitsAndMarksTopWrong : ChangeSpec := { name := "fnSlotKeyKeepsLowBitsAndMarksTop", fn := fun _ => fun
  | [d1, d2] => { results := [.lit (.bool false)], args := [d1, d2] }
  | _ => none }
def FnSlotKeyKeepsLowBitsAndMarksTopWrongFalsely : Prop := fnSlotKeyKeepsLowBitsAndMarksTopRow.holds Try.pinned (OpenSpec.ofChange fnSlotKeyKeepsLowBitsAndMarksTopWrong)

end Rows
end Go.Proofs.Qxb6618382a
