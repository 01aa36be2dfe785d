/-
  THE SAME WITH errors.errorType's HANDLE LISTED TOO.
-/
import Derived.Test.Qxb6614003aFmtLaid
import Derived.Test.Qxb6614003aFmtDelim
namespace Go.Proofs.Qxb6614003aFmt
open Go.ChangeShapes Go.WideShapes Go.ChangeAt Go.RowKit
set_option linter.unusedVariables false

theorem Tryf.et : Tryf.prog.globalNamed "errors.errorType" = some 3 := by kernel_rfl
theorem Tryf.oneRow : ((List.range 133).filter fun t => Tryf.prog.rowNamed t [101, 114, 114, 111, 114]) = [29] := by kernel_rfl
theorem Tryf.tsize : Tryf.prog.types.size = 133 := by kernel_rfl

theorem hand_of_laid {W : World} (h : laidMetH Tryf.prog laid4 W) : laidMet Tryf.prog laid3 W ∧ Hand (fun k => k < W.heap.size) W := by
  have h' : laidMet Tryf.prog laid3 W ∧ handlesMet Tryf.prog [("errors.errorType", Rows.laid_errors_errorType)] W := h
  obtain ⟨name, u, ty, e1, e2, e3, e4, e5⟩ := h'.2 _ (List.mem_singleton.2 rfl)
  have en : name = [101, 114, 114, 111, 114] := (Option.some.inj e1).symm
  subst en
  have eu : u = 85 := Option.some.inj (e2.symm.trans (by kernel_rfl))
  subst eu
  have hm : ty ∈ (List.range 133).filter fun t => Tryf.prog.rowNamed t [101, 114, 114, 111, 114] := List.mem_filter.2 ⟨List.mem_range.2 (by rw [← Tryf.tsize]; exact e3), e4⟩
  rw [Tryf.oneRow] at hm
  obtain rfl := List.mem_singleton.1 hm
  have hh : typeHandle Tryf.prog 29 = .pointer (some ⟨4, 29, none⟩) := by kernel_rfl
  rw [hh] at e5
  have hc : W.cell? ⟨3, 0, none⟩ = some (.iface 85 (.agg #[.pointer (some ⟨4, 29, none⟩)])) := by simpa using World.var?_cell Tryf.et e5 0
  exact ⟨h'.1, lt_of_cell hc, hc⟩
end Go.Proofs.Qxb6614003aFmt
