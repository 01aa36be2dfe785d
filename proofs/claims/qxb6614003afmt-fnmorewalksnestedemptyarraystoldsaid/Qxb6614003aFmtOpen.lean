/-
  A SLICE OF BYTES AMONG THE ARGUMENTS, OPENED FOR THE WALK.
-/
import Derived.Test.Qxb6614003aFmtLaid
import Derived.Test.Qxb6614003aFmtCommon
import Derived.OpenShut
import Derived.ChangeOld
import Derived.Below
namespace Go.Proofs.Qxb6614003aFmt
open Go.ChangeShapes Go.WideShapes Go.ChangeAt Go.RowKit
set_option linter.unusedVariables false

theorem Tryf.laidOut' : laidOutB Tryf.pinned.checked.prog = true := by kernel_rfl
theorem Tryf.stopKnobs : Tryf.pinned.checked.prog.stopKnobs = [] := by kernel_rfl
theorem Tryf.quiet (os : Os) : Stop.quiet Tryf.pinned.checked.prog os := by
  intro k hk
  rw [Tryf.stopKnobs] at hk
  cases hk

/-- Read as data, a slice of bytes is what the walks ask. -/
theorem open_bytes {H : Type} {enc : TypeId × Value → H} {W : World} {a : Option Addr} {len cap : Nat} {d : DataW H} {p : List MemPlace} {base : Nat} {sp : Nat → Bool} {held : Bool}
    (h : DataW.Trod enc Tryf.prog W base sp held 22 (.slice a len cap) d p) : ∃ zs : List Int, In W a len cap zs ∧ len ≤ 9223372036854775807 ∧ ∀ n ∈ zs, (Lit.int .u8 n).wf = true := by
  obtain ⟨fuel, hf⟩ := h
  rcases open_ints Tryf.underlying22 Tryf.underlying5 (by kernel_rfl) hf with ⟨hcs, _⟩ | ⟨x, l, c, zs, hcs, _, hl, hm, hz, _, hcell, hwz⟩
  · simp [Value.cells] at hcs
    obtain ⟨rfl, rfl, rfl⟩ := hcs
    exact ⟨[], .inl ⟨rfl, rfl, rfl, rfl⟩, by omega, fun n hn => by cases hn⟩
  · simp [Value.cells] at hcs
    obtain ⟨rfl, rfl, rfl⟩ := hcs
    have hz' : len ≤ zs.length := by rw [hz]; split <;> omega
    have hlen : len = (zs.take len).length := by simp; omega
    refine ⟨zs.take len, .inr ⟨x, rfl, hlen, fun j hj => ?_⟩, by unfold maxLen at hm; omega, fun n hn => hwz n (List.mem_of_mem_take hn)⟩
    rw [← hlen] at hj
    have := hcell j (by omega)
    rw [this]
    simp [List.getD, hj]
end Go.Proofs.Qxb6614003aFmt
