/-
  No cell of these rows narrows 'for every input' (looked for: loops, veiled, ifaces, maps, wideKeys, modest, calm, conditions, laid).
  DERIVED. THE GIVEN ROWS OF THIS SEAT. 5 by the template 'for every input the law returns true; each argument reads behind the call as it read before'; 0 by the template 'total and deterministic' (their statements: Qxb6617248aTotals.lean).
  GIVEN WITH THE SEED: the statements are not yours to turn. If you find one false, say at which input.
  Laid BY PROGRAM, IN A SANDBOX (cutbox-rows.mjs): the forced cells as the released guide's own fill.sh prints them over the translation f2cd9e5b924d1c07… (all of the seat's roots in one cut). By AI agents, Wed Nov 11 2026. No macro, syntax, notation, axiom, sorry.
-/
import Derived.Test.Qxb6617248aChecked
import GoSem.Claim
import GoSem.ClaimJoined
import GoSem.ClaimMapViews
import Derived.JoinedTies
import Derived.KernelRfl
namespace Go.Proofs.Qxb6617248a
/- THE CELL 'sum', in the pinned program and in every row, IS THE sha256 OF THE DUMP (.gsa) THAT Qxb6617248aProg.lean LOADS. Nothing in Lean hashes anything: it is a label: what it is worth is what the hold of that sum in a sandbox is worth. -/
noncomputable def Try.pinned : Pinned := { name := "qxb6617248a", sum := "f2cd9e5b924d1c0769c0727e0542010ea58ebe1fa83dd94f47d17abd1fca3474", checked := Try.checked }
namespace Rows
def none {H : Type} : Left H := { results := [], args := [] }

/-- 'zzlaws_quote_b1.FnSwitchFiguresChangeOneField': WHATEVER THE INPUT: true; the input reads as it did. -/
def fnSwitchFiguresChangeOneFieldSpec : ChangeSpec := { name := "fnSwitchFiguresChangeOneField", fn := fun _ => fun
  | [d1, d2, d3] => { results := [.lit (.bool true)], args := [d1, d2, d3] }
  | _ => none }
def fnSwitchFiguresChangeOneFieldRow : OpenClaim := { program := "qxb6617248a", sum := "f2cd9e5b924d1c0769c0727e0542010ea58ebe1fa83dd94f47d17abd1fca3474", func := "example.com/zhaomu/zhaomu/zzlaws_quote_b1.FnSwitchFiguresChangeOneField", spec := "fnSwitchFiguresChangeOneField", apart := false }
def FnSwitchFiguresChangeOneFieldSaid : Prop := fnSwitchFiguresChangeOneFieldRow.holds Try.pinned (OpenSpec.ofChange fnSwitchFiguresChangeOneFieldSpec)

/-- ITS FALSE NEIGHBOUR: 'it returns false'. Refute it at one input. -/
def fnSwitchFiguresChangeOneFieldWrong : ChangeSpec := { name := "fnSwitchFiguresChangeOneField", fn := fun _ => fun
  | [d1, d2, d3] => { results := [.lit (.bool false)], args := [d1, d2, d3] }
  | _ => none }
def FnSwitchFiguresChangeOneFieldWrongFalsely : Prop := fnSwitchFiguresChangeOneFieldRow.holds Try.pinned (OpenSpec.ofChange fnSwitchFiguresChangeOneFieldWrong)

/-- 'zzlaws_quote_b1.FnSwitchFiguresNamedAsRedemption': WHATEVER THE INPUT: true; the input reads as it did. -/
def fnSwitchFiguresNamedAsRedemptionSpec : ChangeSpec := { name := "fnSwitchFiguresNamedAsRedemption", fn := fun _ => fun
  | [d1, d2] => { results := [.lit (.bool true)], args := [d1, d2] }
  | _ => none }
def fnSwitchFiguresNamedAsRedemptionRow : OpenClaim := { program := "qxb6617248a", sum := "f2cd9e5b924d1c0769c0727e0542010ea58ebe1fa83dd94f47d17abd1fca3474", func := "example.com/zhaomu/zhaomu/zzlaws_quote_b1.FnSwitchFiguresNamedAsRedemption", spec := "fnSwitchFiguresNamedAsRedemption", apart := false }
def FnSwitchFiguresNamedAsRedemptionSaid : Prop := fnSwitchFiguresNamedAsRedemptionRow.holds Try.pinned (OpenSpec.ofChange fnSwitchFiguresNamedAsRedemptionSpec)

/-- ITS FALSE NEIGHBOUR: 'it returns false'. Refute it at one input. -/
def fnSwitchFiguresNamedAsRedemptionWrong : ChangeSpec := { name := "fnSwitchFiguresNamedAsRedemption", fn := fun _ => fun
  | [d1, d2] => { results := [.lit (.bool false)], args := [d1, d2] }
  | _ => none }
def FnSwitchFiguresNamedAsRedemptionWrongFalsely : Prop := fnSwitchFiguresNamedAsRedemptionRow.holds Try.pinned (OpenSpec.ofChange fnSwitchFiguresNamedAsRedemptionWrong)

/-- 'zzlaws_quote_b1.FnRedemptionFiguresNamesHangOnIncomeAlone': WHATEVER THE INPUT: true; the input reads as it did. -/
def fnRedemptionFiguresNamesHangOnIncomeAloneSpec : ChangeSpec := { name := "fnRedemptionFiguresNamesHangOnIncomeAlone", fn := fun _ => fun
  | [d1, d2] => { results := [.lit (.bool true)], args := [d1, d2] }
  | _ => none }
def fnRedemptionFiguresNamesHangOnIncomeAloneRow : OpenClaim := { program := "qxb6617248a", sum := "f2cd9e5b924d1c0769c0727e0542010ea58ebe1fa83dd94f47d17abd1fca3474", func := "example.com/zhaomu/zhaomu/zzlaws_quote_b1.FnRedemptionFiguresNamesHangOnIncomeAlone", spec := "fnRedemptionFiguresNamesHangOnIncomeAlone", apart := false }
def FnRedemptionFiguresNamesHangOnIncomeAloneSaid : Prop := fnRedemptionFiguresNamesHangOnIncomeAloneRow.holds Try.pinned (OpenSpec.ofChange fnRedemptionFiguresNamesHangOnIncomeAloneSpec)

/-- ITS FALSE NEIGHBOUR: 'it returns false'. Refute it at one input. -/
def fnRedemptionFiguresNamesHangOnIncomeAloneWrong : ChangeSpec := { name := "fnRedemptionFiguresNamesHangOnIncomeAlone", fn := fun _ => fun
  | [d1, d2] => { results := [.lit (.bool false)], args := [d1, d2] }
  | _ => none }
def FnRedemptionFiguresNamesHangOnIncomeAloneWrongFalsely : Prop := fnRedemptionFiguresNamesHangOnIncomeAloneRow.holds Try.pinned (OpenSpec.ofChange fnRedemptionFiguresNamesHangOnIncomeAloneWrong)

/-- 'zzlaws_quote_b1.FnRedemptionSubscriptionSharedNames': WHATEVER THE INPUT: true; the input reads as it did. -/
def fnRedemptionSubscriptionSharedNamesSpec : ChangeSpec := { name := "fnRedemptionSubscriptionSharedNames", fn := fun _ => fun
  | [d1, d2] => { results := [.lit (.bool true)], args := [d1, d2] }
  | _ => none }
def fnRedemptionSubscriptionSharedNamesRow : OpenClaim := { program := "qxb6617248a", sum := "f2cd9e5b924d1c0769c0727e0542010ea58ebe1fa83dd94f47d17abd1fca3474", func := "example.com/zhaomu/zhaomu/zzlaws_quote_b1.FnRedemptionSubscriptionSharedNames", spec := "fnRedemptionSubscriptionSharedNames", apart := false }
def FnRedemptionSubscriptionSharedNamesSaid : Prop := fnRedemptionSubscriptionSharedNamesRow.holds Try.pinned (OpenSpec.ofChange fnRedemptionSubscriptionSharedNamesSpec)

/-- ITS FALSE NEIGHBOUR: 'it returns false'. Refute it at one input. -/
def fnRedemptionSubscriptionSharedNamesWrong : ChangeSpec := { name := "fnRedemptionSubscriptionSharedNames", fn := fun _ => fun
  | [d1, d2] => { results := [.lit (.bool false)], args := [d1, d2] }
  | _ => none }
def FnRedemptionSubscriptionSharedNamesWrongFalsely : Prop := fnRedemptionSubscriptionSharedNamesRow.holds Try.pinned (OpenSpec.ofChange fnRedemptionSubscriptionSharedNamesWrong)

/-- 'zzlaws_quote_b1.FnSubscriptionFiguresChangeOneField': WHATEVER THE INPUT: true; the input reads as it did. -/
def fnSubscriptionFiguresChangeOneFieldSpec : ChangeSpec := { name := "fnSubscriptionFiguresChangeOneField", fn := fun _ => fun
  | [d1, d2, d3] => { results := [.lit (.bool true)], args := [d1, d2, d3] }
  | _ => none }
def fnSubscriptionFiguresChangeOneFieldRow : OpenClaim := { program := "qxb6617248a", sum := "f2cd9e5b924d1c0769c0727e0542010ea58ebe1fa83dd94f47d17abd1fca3474", func := "example.com/zhaomu/zhaomu/zzlaws_quote_b1.FnSubscriptionFiguresChangeOneField", spec := "fnSubscriptionFiguresChangeOneField", apart := false }
def FnSubscriptionFiguresChangeOneFieldSaid : Prop := fnSubscriptionFiguresChangeOneFieldRow.holds Try.pinned (OpenSpec.ofChange fnSubscriptionFiguresChangeOneFieldSpec)

/-- ITS FALSE NEIGHBOUR: 'it returns false'. Refute it at one input. -/
def fnSubscriptionFiguresChangeOneFieldWrong : ChangeSpec := { name := "fnSubscriptionFiguresChangeOneField", fn := fun _ => fun
  | [d1, d2, d3] => { results := [.lit (.bool false)], args := [d1, d2, d3] }
  | _ => none }
def FnSubscriptionFiguresChangeOneFieldWrongFalsely : Prop := fnSubscriptionFiguresChangeOneFieldRow.holds Try.pinned (OpenSpec.ofChange fnSubscriptionFiguresChangeOneFieldWrong)

end Rows
end Go.Proofs.Qxb6617248a
