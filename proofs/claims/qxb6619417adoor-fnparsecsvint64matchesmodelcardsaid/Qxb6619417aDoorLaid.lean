/-
  WHAT THE LISTED VARIABLES GIVE: the two sentinels of package strconv; for both cards.
-/
import Derived.Test.Qxb6619417aDoorCsv
import Derived.Stop.LaidErr
import Derived.LaidMore
import Derived.Lay
namespace Go.Proofs.Qxb6619417aDoor
open Go.RowKit
namespace Laid
/-- The list that both rows bear. -/
def five : List (String × DataW Unit) := Rows.fnParseCSVInt64MatchesModelRow.laid

theorem t_syn : (Tryd.prog.globals[2]?).map (·.type) = some 43 := by kernel_rfl
theorem t_rng : (Tryd.prog.globals[3]?).map (·.type) = some 43 := by kernel_rfl
theorem cells94 : Tryd.prog.cellsOf 94 = 1 := by kernel_rfl
theorem cells9 : Tryd.prog.cellsOf 9 = 1 := by kernel_rfl
theorem star : "*" ++ "errors.errorString" = "*errors.errorString" := by decide
theorem row92 (u : TypeId) (h : Tryd.prog.typeName? 3 u = some "*errors.errorString") : u = 92 :=
  typeName_ptr_named (nm := "errors.errorString") (by rw [star]; kernel_rfl) (by kernel_rfl) (by decide) u (by rw [star]; exact h)

theorem errs_of {W : World} (h : laidMetH Tryd.prog five W) : Csv.Errs W := by
  rw [MakeChecks.laidMetH_plain _ _ _ (by kernel_rfl)] at h
  have h3 : laidMet Tryd.prog (("strconv.ErrRange", Rows.laid_strconv_ErrRange) :: ("strconv.ErrSyntax", Rows.laid_strconv_ErrSyntax) :: []) W := h.tail.tail.tail
  obtain ⟨a1, s1, hv1, -, -, -⟩ := laid_sentinel h3 Csv.g_rng t_rng Tryd.underlying43 row92 Tryd.underlying92 Tryd.underlying94 rfl rfl Tryd.underlying9 cells94 cells9
  obtain ⟨a0, s0, hv0, -, -, -⟩ := laid_sentinel h3.tail Csv.g_syn t_syn Tryd.underlying43 row92 Tryd.underlying92 Tryd.underlying94 rfl rfl Tryd.underlying9 cells94 cells9
  exact ⟨⟨_, _, hv0⟩, ⟨_, _, hv1⟩⟩

theorem met (os : Os) (args : Array Value) : laidMetH Tryd.prog five ((World.laidAll Tryd.prog os five).forCall (fun _ _ => 0) ⟨#[], args, []⟩).memory := by
  rw [MakeChecks.laidMetH_plain _ _ _ (by kernel_rfl)]
  exact laidMet_laidAll _ (by kernel_rfl) (by kernel_rfl)
end Laid
end Go.Proofs.Qxb6619417aDoor
