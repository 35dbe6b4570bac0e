/- From what the rows list to the two error variables. -/
import Derived.Test.YteemenhinhkonaaDoorRows
import Derived.Test.YteemenhinhkonaaDoorPlusD
import Derived.Stop.LaidErr
import Derived.MakeChecks
import Derived.LaidLaws
namespace Go.Proofs.YteemenhinhkonaaDoor
open Go.RowKit Go.ChangeShapes

theorem star_err : "*" ++ "errors.errorString" = "*errors.errorString" := by decide
theorem row_err (u : TypeId) (h : Tryd.prog.typeName? 3 u = some "*errors.errorString") : u = 183 :=
  typeName_ptr_named (nm := "errors.errorString") (by rw [star_err]; kernel_rfl) (by kernel_rfl) (by decide) u (by rw [star_err]; exact h)
theorem errs_of_laid {x1 x2 x3 x4 : String × DataW Unit} {r : List (String × DataW Unit)} {W : World} (h : laidMetH Tryd.prog (x1 :: x2 :: x3 :: x4 :: ("loop.example/pub-linesandtags/pub/constraint.errNotConstraint", Rows.laid_loop_example_pub_linesandtags_pub_constraint_errNotConstraint) :: ("loop.example/pub-linesandtags/pub/constraint.errComplex", Rows.laid_loop_example_pub_linesandtags_pub_constraint_errComplex) :: r) W)
    (hp : ((x1 :: x2 :: x3 :: x4 :: ("loop.example/pub-linesandtags/pub/constraint.errNotConstraint", (Rows.laid_loop_example_pub_linesandtags_pub_constraint_errNotConstraint : DataW Unit)) :: ("loop.example/pub-linesandtags/pub/constraint.errComplex", Rows.laid_loop_example_pub_linesandtags_pub_constraint_errComplex) :: r).all fun x => x.2.handleName?.isNone) = true) : Errs W := by
  rw [MakeChecks.laidMetH_plain _ _ _ hp] at h
  have g0 : Tryd.prog.globalNamed "loop.example/pub-linesandtags/pub/constraint.errNotConstraint" = some 0 := by kernel_rfl
  have g1 : Tryd.prog.globalNamed "loop.example/pub-linesandtags/pub/constraint.errComplex" = some 1 := by kernel_rfl
  obtain ⟨a0, s0, hv0, _, _, _⟩ := laid_sentinel h.tail.tail.tail.tail g0 (by kernel_rfl) Tryd.underlying65 row_err Tryd.underlying183 Tryd.underlying185 rfl rfl Tryd.underlying9 (by kernel_rfl) (by kernel_rfl)
  obtain ⟨a1, s1, hv1, _, _, _⟩ := laid_sentinel h.tail.tail.tail.tail.tail g1 (by kernel_rfl) Tryd.underlying65 row_err Tryd.underlying183 Tryd.underlying185 rfl rfl Tryd.underlying9 (by kernel_rfl) (by kernel_rfl)
  exact ⟨⟨a0, by simpa using World.var?_cell g0 hv0 0⟩, ⟨a1, by simpa using World.var?_cell g1 hv1 0⟩⟩
end Go.Proofs.YteemenhinhkonaaDoor
