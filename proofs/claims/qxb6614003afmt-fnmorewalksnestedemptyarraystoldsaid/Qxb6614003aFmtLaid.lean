/-
  FROM THE ROWS' CELL 'laid' TO WHAT THE WALKS ASK; A START THAT MEETS IT.
-/
import Derived.Test.Qxb6614003aFmtRows
import Derived.Test.Qxb6614003aFmtJoint
import Derived.ProofKit
import Derived.LaidLaws
import Derived.LaidHandle
import Derived.LaidMore
import Derived.Stop.LaidErr
import Derived.Stop.Joined
import Derived.Stop.JoinedTold
import Derived.Deep.DeepWitnessRef
namespace Go.Proofs.Qxb6614003aFmt
open Go.ChangeShapes Go.WideShapes Go.ChangeAt Go.RowKit
set_option linter.unusedVariables false

theorem Tryf.own : ownKnob Tryf.prog.godebug = none := by kernel_rfl
theorem Tryf.laidOut : laidOutB Tryf.prog = true := by kernel_rfl
/-- The dynamic type's name that the rows list: a pointer to errors.errorString. -/
def nm81 : String := match (Rows.laid_io_EOF : DataW Unit) with
  | .iface n _ => n
  | _ => "none"
theorem Tryf.row81 (u : TypeId) (h : Tryf.prog.typeName? 3 u = some nm81) : u = 81 :=
  typeName_ptr_named (nm := "errors.errorString") (by kernel_rfl) (by kernel_rfl) (by decide) u (h.trans (congrArg some (by decide)))

/-- A listed sentinel: the variable's pointer, the text behind it, the row that it lies in. -/
theorem laid_row {P : Program} {n nm : String} {text : List UInt8} {r : List (String × DataW Unit)} {W : World} {g : Nat} {ti tp te ts : TypeId} {ms : Array (String × TypeId)} {f : Field}
    (h : laidMet P ((n, .iface nm (.ptr (.agg [.lit (.string text)]))) :: r) W)
    (hg : P.globalNamed n = some g) (ht : (P.globals[g]?).map (·.type) = some ti) (hi : P.underlying ti = some (.interface ms)) (hrow : ∀ u, P.typeName? 3 u = some nm → u = tp)
    (hp : P.underlying tp = some (.pointer te)) (he : P.underlying te = some (.struct #[f])) (hft : f.type = ts) (hfo : f.offset = 0) (hs : P.underlying ts = some .string) (hc : P.cellsOf te = 1) (hcs : P.cellsOf ts = 1) :
    ∃ (a : Addr) (s : ByteArray), W.cell? ⟨g, 0, none⟩ = some (.iface tp (.pointer (some a))) ∧ W.cell? a = some (.string s) ∧ s.data.toList = text ∧ ∃ c t, W.heap[a.block]? = some (.cells c t (0, 0)) := by
  obtain ⟨ps, ⟨g0, t0, cs0, f0, p0, q0, hg0, ht0, hv0, hd0, _, e0⟩, _, hrows⟩ := h
  obtain rfl := Option.some.inj (hg.symm.trans hg0)
  obtain rfl := Option.some.inj (ht.symm.trans ht0)
  subst e0
  obtain ⟨l0⟩ := cs0
  have ok0 : ∀ u v, l0 = [.iface u v] → Value.okWide P W .any 0 u v := fun u v e => by
    subst e
    exact (hrows g 0 (by simp [MemPlace.row])).2 u v (by simpa using World.var?_cell hg0 hv0 0)
  obtain ⟨a0, s0, rfl, hc0, hs0, hz0, rfl⟩ := errorString_of_trod hi hrow hp he hft hfo hs hc hcs hd0 ok0
  exact ⟨a0, s0, by simpa using World.var?_cell hg0 hv0 0, hc0, hs0, (hrows a0.block a0.off (by simp [MemPlace.row])).1⟩

/-- The three sentinels, as the rows list them. -/
def laid3 : List (String × DataW Unit) := [("io.ErrShortBuffer", Rows.laid_io_ErrShortBuffer), ("io.EOF", Rows.laid_io_EOF), ("io.ErrUnexpectedEOF", Rows.laid_io_ErrUnexpectedEOF)]
def laid4 : List (String × DataW Unit) := ("errors.errorType", Rows.laid_errors_errorType) :: laid3

theorem glob_of_laid {W : World} (h : laidMet Tryf.prog laid3 W) : ∃ x0 x1, Glob (fun k => k < W.heap.size) x0 x1 W := by
  obtain ⟨x1, s1, v1, c1, t1, r1⟩ := laid_row (g := 1) (tp := 81) (te := 83) (ts := 9) h.tail (by kernel_rfl) (by kernel_rfl) Tryf.underlying29 Tryf.row81 Tryf.underlying81 Tryf.underlying83 rfl rfl Tryf.underlying9 (by kernel_rfl) (by kernel_rfl)
  obtain ⟨x0, s0, v0, c0, t0, r0⟩ := laid_row (g := 0) (tp := 81) (te := 83) (ts := 9) h.tail.tail (by kernel_rfl) (by kernel_rfl) Tryf.underlying29 Tryf.row81 Tryf.underlying81 Tryf.underlying83 rfl rfl Tryf.underlying9 (by kernel_rfl) (by kernel_rfl)
  refine ⟨x0, x1, lt_of_cell v0, lt_of_cell v1, lt_of_cell c0, lt_of_cell c1, fun _ h => h, v0, v1, ?_, r0, r1⟩
  rintro rfl
  have e : s0 = s1 := by
    have := c0.symm.trans c1
    simpa using this
  rw [e, t1] at t0
  cases t0

theorem door_met3 (os : Os) (args : Array Value) : laidMetH Tryf.prog laid3 ((World.doorLaid Tryf.prog 73 os).forCall (fun _ _ => 0) ⟨#[], args, []⟩).memory :=
  laidMetH_of_parts3 (fuel := 8) (laidMet_of_run' 8 (by kernel_rfl) (by kernel_rfl)) (by kernel_rfl) (by kernel_rfl)
theorem door_met4 (os : Os) (args : Array Value) : laidMetH Tryf.prog laid4 ((World.doorLaid Tryf.prog 73 os).forCall (fun _ _ => 0) ⟨#[], args, []⟩).memory :=
  laidMetH_of_parts3 (fuel := 8) (laidMet_of_run' 8 (by kernel_rfl) (by kernel_rfl)) (by kernel_rfl) (by kernel_rfl)
end Go.Proofs.Qxb6614003aFmt
