/-
  No cell of these rows narrows 'for every input' (looked for: loops, veiled, ifaces, maps, wideKeys, modest, calm, conditions, laid).
  DERIVED. THE GIVEN ROWS OF THIS SEAT. 4 by the template 'for every input the law returns true; each argument reads behind the call as it read before'; 0 by the template 'total and deterministic' (their statements: Qxb6617276aTotals.lean).
  GIVEN WITH THE SEED: the statements are not yours to turn. If you find one false, say at which input.
  Laid BY PROGRAM, IN A SANDBOX (cutbox-rows.mjs): the forced cells as the released guide's own fill.sh prints them over the translation 8e71f11976a324ab… (all of the seat's roots in one cut). By AI agents, Wed Nov 11 2026. No macro, syntax, notation, axiom, sorry.
-/
import Derived.Test.Qxb6617276aChecked
import GoSem.Claim
import GoSem.ClaimJoined
import GoSem.ClaimMapViews
import Derived.JoinedTies
import Derived.KernelRfl
namespace Go.Proofs.Qxb6617276a
/- THE CELL 'sum', in the pinned program and in every row, IS THE sha256 OF THE DUMP (.gsa) THAT Qxb6617276aProg.lean LOADS. Nothing in Lean hashes anything: it is a label: what it is worth is what the hold of that sum in a sandbox is worth. -/
noncomputable def Try.pinned : Pinned := { name := "qxb6617276a", sum := "8e71f11976a324abf697f1f390665f08c97a0dfd744a1bb1bc40d8c60b417de8", checked := Try.checked }
namespace Rows
def none {H : Type} : Left H := { results := [], args := [] }

/-- 'zzlaws_root_b1.FnLeastTreeLeastIsMinOfRun': WHATEVER THE INPUT: true; the input reads as it did. -/
def fnLeastTreeLeastIsMinOfRunSpec : ChangeSpec := { name := "fnLeastTreeLeastIsMinOfRun", fn := fun _ => fun
  | [d1, d2, d3] => { results := [.lit (.bool true)], args := [d1, d2, d3] }
  | _ => none }
def fnLeastTreeLeastIsMinOfRunRow : OpenClaim := { program := "qxb6617276a", sum := "8e71f11976a324abf697f1f390665f08c97a0dfd744a1bb1bc40d8c60b417de8", func := "example.com/wire-to-verdict/wire-to-verdict/zzlaws_root_b1.FnLeastTreeLeastIsMinOfRun", spec := "fnLeastTreeLeastIsMinOfRun", apart := false }
def FnLeastTreeLeastIsMinOfRunSaid : Prop := fnLeastTreeLeastIsMinOfRunRow.holds Try.pinned (OpenSpec.ofChange fnLeastTreeLeastIsMinOfRunSpec)

/-- ITS FALSE NEIGHBOUR: 'it returns false'. Refute it at one input. -/
def fnLeastTreeLeastIsMinOfRunWrong : ChangeSpec := { name := "fnLeastTreeLeastIsMinOfRun", fn := fun _ => fun
  | [d1, d2, d3] => { results := [.lit (.bool false)], args := [d1, d2, d3] }
  | _ => none }
def FnLeastTreeLeastIsMinOfRunWrongFalsely : Prop := fnLeastTreeLeastIsMinOfRunRow.holds Try.pinned (OpenSpec.ofChange fnLeastTreeLeastIsMinOfRunWrong)

/-- 'zzlaws_root_b1.FnLeastTreeLeastSplitsAtAnyPoint': WHATEVER THE INPUT: true; the input reads as it did. -/
def fnLeastTreeLeastSplitsAtAnyPointSpec : ChangeSpec := { name := "fnLeastTreeLeastSplitsAtAnyPoint", fn := fun _ => fun
  | [d1, d2, d3, d4] => { results := [.lit (.bool true)], args := [d1, d2, d3, d4] }
  | _ => none }
def fnLeastTreeLeastSplitsAtAnyPointRow : OpenClaim := { program := "qxb6617276a", sum := "8e71f11976a324abf697f1f390665f08c97a0dfd744a1bb1bc40d8c60b417de8", func := "example.com/wire-to-verdict/wire-to-verdict/zzlaws_root_b1.FnLeastTreeLeastSplitsAtAnyPoint", spec := "fnLeastTreeLeastSplitsAtAnyPoint", apart := false }
def FnLeastTreeLeastSplitsAtAnyPointSaid : Prop := fnLeastTreeLeastSplitsAtAnyPointRow.holds Try.pinned (OpenSpec.ofChange fnLeastTreeLeastSplitsAtAnyPointSpec)

/-- ITS FALSE NEIGHBOUR: 'it returns false'. Refute it at one input. -/
def fnLeastTreeLeastSplitsAtAnyPointWrong : ChangeSpec := { name := "fnLeastTreeLeastSplitsAtAnyPoint", fn := fun _ => fun
  | [d1, d2, d3, d4] => { results := [.lit (.bool false)], args := [d1, d2, d3, d4] }
  | _ => none }
def FnLeastTreeLeastSplitsAtAnyPointWrongFalsely : Prop := fnLeastTreeLeastSplitsAtAnyPointRow.holds Try.pinned (OpenSpec.ofChange fnLeastTreeLeastSplitsAtAnyPointWrong)

/-- 'zzlaws_root_b1.FnIsSIDLiteralsSplitsAtAnyCut': WHATEVER THE INPUT: true; the input reads as it did. -/
def fnIsSIDLiteralsSplitsAtAnyCutSpec : ChangeSpec := { name := "fnIsSIDLiteralsSplitsAtAnyCut", fn := fun _ => fun
  | [d1, d2, d3] => { results := [.lit (.bool true)], args := [d1, d2, d3] }
  | _ => none }
def fnIsSIDLiteralsSplitsAtAnyCutRow : OpenClaim := { program := "qxb6617276a", sum := "8e71f11976a324abf697f1f390665f08c97a0dfd744a1bb1bc40d8c60b417de8", func := "example.com/wire-to-verdict/wire-to-verdict/zzlaws_root_b1.FnIsSIDLiteralsSplitsAtAnyCut", spec := "fnIsSIDLiteralsSplitsAtAnyCut", apart := false }
def FnIsSIDLiteralsSplitsAtAnyCutSaid : Prop := fnIsSIDLiteralsSplitsAtAnyCutRow.holds Try.pinned (OpenSpec.ofChange fnIsSIDLiteralsSplitsAtAnyCutSpec)

/-- ITS FALSE NEIGHBOUR: 'it returns false'. Refute it at one input. -/
def fnIsSIDLiteralsSplitsAtAnyCutWrong : ChangeSpec := { name := "fnIsSIDLiteralsSplitsAtAnyCut", fn := fun _ => fun
  | [d1, d2, d3] => { results := [.lit (.bool false)], args := [d1, d2, d3] }
  | _ => none }
def FnIsSIDLiteralsSplitsAtAnyCutWrongFalsely : Prop := fnIsSIDLiteralsSplitsAtAnyCutRow.holds Try.pinned (OpenSpec.ofChange fnIsSIDLiteralsSplitsAtAnyCutWrong)

/-- 'zzlaws_root_b1.FnIsSIDLiteralsScalarAgreesWithSingleton': WHATEVER THE INPUT: true; the input reads as it did. -/
def fnIsSIDLiteralsScalarAgreesWithSingletonSpec : ChangeSpec := { name := "fnIsSIDLiteralsScalarAgreesWithSingleton", fn := fun _ => fun
  | [d1, d2] => { results := [.lit (.bool true)], args := [d1, d2] }
  | _ => none }
def fnIsSIDLiteralsScalarAgreesWithSingletonRow : OpenClaim := { program := "qxb6617276a", sum := "8e71f11976a324abf697f1f390665f08c97a0dfd744a1bb1bc40d8c60b417de8", func := "example.com/wire-to-verdict/wire-to-verdict/zzlaws_root_b1.FnIsSIDLiteralsScalarAgreesWithSingleton", spec := "fnIsSIDLiteralsScalarAgreesWithSingleton", apart := false }
def FnIsSIDLiteralsScalarAgreesWithSingletonSaid : Prop := fnIsSIDLiteralsScalarAgreesWithSingletonRow.holds Try.pinned (OpenSpec.ofChange fnIsSIDLiteralsScalarAgreesWithSingletonSpec)

/-- ITS FALSE NEIGHBOUR: 'it returns false'. Refute it at one input. -/
def fnIsSIDLiteralsScalarAgreesWithSingletonWrong : ChangeSpec := { name := "fnIsSIDLiteralsScalarAgreesWithSingleton", fn := fun _ => fun
  | [d1, d2] => { results := [.lit (.bool false)], args := [d1, d2] }
  | _ => none }
def FnIsSIDLiteralsScalarAgreesWithSingletonWrongFalsely : Prop := fnIsSIDLiteralsScalarAgreesWithSingletonRow.holds Try.pinned (OpenSpec.ofChange fnIsSIDLiteralsScalarAgreesWithSingletonWrong)

end Rows
end Go.Proofs.Qxb6617276a
