import Derived.Test.Qxb6617296aDoorRows
import Derived.ProofKit
import Derived.LaidMore
import Derived.OpenShut
import Derived.Stop.Joined
import Derived.Stop.LaidErr
namespace Go.Proofs.Qxb6617296aDoor
open Go.ChangeShapes Go.WideShapes Go.ChangeAt Go.RowKit

theorem own : ownKnob Tryd.prog.godebug = none := by kernel_rfl

/-- the name of the dynamic type in a listed interface value -/
def ifName : DataW Unit → String
  | .iface n _ => n
  | _ => ""

theorem gSyn : Tryd.prog.globalNamed "strconv.ErrSyntax" = some 0 := by kernel_rfl
theorem gRng : Tryd.prog.globalNamed "strconv.ErrRange" = some 1 := by kernel_rfl
theorem tSyn : (Tryd.prog.globals[0]?).map (·.type) = some 37 := by kernel_rfl
theorem tRng : (Tryd.prog.globals[1]?).map (·.type) = some 37 := by kernel_rfl
theorem cells57 : Tryd.prog.cellsOf 57 = 1 := by kernel_rfl
theorem cells9 : Tryd.prog.cellsOf 9 = 1 := by kernel_rfl
theorem row55 (u : TypeId) (h : Tryd.prog.typeName? 3 u = some (ifName Rows.laid_strconv_ErrRange)) : u = 55 :=
  typeName_ptr_named (nm := "errors.errorString") (by kernel_rfl) (by kernel_rfl) (by decide) u (h.trans (congrArg some (by decide)))

/-- WHAT THE LISTED VARIABLES GIVE THE WALKS: the two sentinels' cells hold values of an interface's type. -/
theorem of_laid {W : World} {x0 x1 x2 : String × DataW Unit} (h : laidMet Tryd.prog [x0, x1, x2, ("strconv.ErrRange", Rows.laid_strconv_ErrRange), ("strconv.ErrSyntax", Rows.laid_strconv_ErrSyntax)] W) :
    ∃ (p0 p1 : Value), W.cell? ⟨0, 0, none⟩ = some (.iface 55 p0) ∧ W.cell? ⟨1, 0, none⟩ = some (.iface 55 p1) := by
  have h3 := h.tail.tail.tail
  obtain ⟨a1, s1, hv1, -, -, -⟩ := laid_sentinel h3 gRng tRng Tryd.underlying37 row55 Tryd.underlying55 Tryd.underlying57 rfl rfl Tryd.underlying9 cells57 cells9
  obtain ⟨a0, s0, hv0, -, -, -⟩ := laid_sentinel h3.tail gSyn tSyn Tryd.underlying37 row55 Tryd.underlying55 Tryd.underlying57 rfl rfl Tryd.underlying9 cells57 cells9
  exact ⟨_, _, by have h0 := World.var?_cell gSyn hv0 0; simpa using h0, by have h0 := World.var?_cell gRng hv1 0; simpa using h0⟩
end Go.Proofs.Qxb6617296aDoor
