/-
  (*Reader).fault at a *SyntaxError.
-/
import Derived.Test.Qxb6614003aFmtAs
import Derived.Test.Qxb6614003aFmtJoint
import Derived.BigRegion
namespace Go.Proofs.Qxb6614003aFmt
open Go.RowKit
set_option linter.unusedVariables false

theorem lt_of_heap' {w : World} {b : Nat} {o : Obj} (h : w.heap[b]? = some o) : b < w.heap.size := (Array.getElem?_eq_some_iff.1 h).1

/-- errors.As, what it leaves alone. -/
theorem as_keep (e t : Addr) (old : Value) (w : World) (hg : w.cell? ⟨3, 0, none⟩ = some (.iface 85 (.agg #[.pointer (some ⟨4, 29, none⟩)]))) (ht0 : w.cell? t = some old) (hf0 : w.frozen? t = false) (hts : t.spot = none) :
    Calls Tryf.prog 37 #[.iface 52 (.pointer (some e)), .iface 63 (.pointer (some t))] w fun ev w' => ev = .returned (.bool true) ∧ Keep (fun k => k < w.heap.size ∧ k ≠ t.block) w w' ∧ w'.cell? t = some (.pointer (some e)) := by
  refine (as_hit e t old w hg ht0 hf0).mono ?_
  rintro ev w' ⟨rfl, rfl⟩
  obtain ⟨tb, to, ts⟩ := t
  cases hts
  have hb : Below w.heap.size w ((((w.alloc (.cells #[.pointer (some ⟨tb, to, none⟩)] 63)).alloc (.cells #[.pointer (some ⟨4, 63, none⟩), .pointer (some ⟨w.heap.size, 0, none⟩), .int .u64 150] 71)).alloc (.cells #[.pointer (some ⟨4, 63, none⟩), .pointer (some ⟨w.heap.size, 0, none⟩), .int .u64 150] 71)).alloc (.cells #[.pointer (some e)] 52)) :=
    ((((Below.refl _ w).alloc (Nat.le_refl _) _).alloc (by simp) _).alloc (by simp; omega) _).alloc (by simp; omega) _
  have hlt : tb < w.heap.size := lt_of_cell ht0
  refine ⟨rfl, (Keep.of_below hb (fun k hk => hk.1)).setCell (fun h => h.2 rfl) _, ?_⟩
  have hc : ((((w.alloc (.cells #[.pointer (some ⟨tb, to, none⟩)] 63)).alloc (.cells #[.pointer (some ⟨4, 63, none⟩), .pointer (some ⟨w.heap.size, 0, none⟩), .int .u64 150] 71)).alloc (.cells #[.pointer (some ⟨4, 63, none⟩), .pointer (some ⟨w.heap.size, 0, none⟩), .int .u64 150] 71)).alloc (.cells #[.pointer (some e)] 52)).cell? ⟨tb, to, none⟩ = some old := by
    rw [hb.cell hlt]; exact ht0
  exact World.cell?_setCell_same _ _ _ hc

set_option maxRecDepth 100000 in
set_option maxHeartbeats 1000000 in
theorem fault_any (p e : Nat) (b o : Int) (s : ByteArray) (w : World) (hg : w.cell? ⟨3, 0, none⟩ = some (.iface 85 (.agg #[.pointer (some ⟨4, 29, none⟩)])))
    (hp : w.cell? ⟨p, 3, none⟩ = some (.int .i64 b)) (he : w.heap[e]? = some (.cells #[.int .i64 o, .string s] 55 (0, 0))) (hpe : p ≠ e) :
    Calls Tryf.prog 32 #[.pointer (some ⟨p, 0, none⟩), .iface 52 (.pointer (some ⟨e, 0, none⟩))] w fun ev w' => ev = .returned (.iface 52 (.pointer (some ⟨e, 0, none⟩))) ∧ Keep (fun k => k < w.heap.size ∧ k ≠ e) w w' := by
  have HG := hide hg
  have HP := hide hp
  have HE := hide he
  clear hg hp he
  go_enter Tryf.func32, Tryf.ntmps32
  have hb1 : Below w.heap.size w (w.alloc (.cells #[.pointer none] 52)) := (Below.refl _ w).alloc (Nat.le_refl _) _
  have lp : p < w.heap.size := lt_of_cell (unhide HP)
  have le : e < w.heap.size := lt_of_heap' (unhide HE)
  have HC := hide (as_keep ⟨e, 0, none⟩ ⟨w.heap.size, 0, none⟩ (.pointer none) (w.alloc (.cells #[.pointer none] 52)) (by rw [hb1.cell (lt_of_cell (unhide HG))]; exact unhide HG) (cell_of (heap_new w _) 0) (frozen_of (heap_new w _) 0) rfl)
  have HB := hide hb1
  clear hb1
  go_wp2_with fail
  refine (unhide HC).mono ?_
  rintro ev w1 ⟨rfl, hk, hc⟩
  have hsz : (w.alloc (.cells #[.pointer none] 52)).heap.size = w.heap.size + 1 := by simp
  have hk1 : Keep (fun k => k < w.heap.size) w w1 := (Keep.of_below (unhide HB) (fun k h => h)).trans (hk.mono (fun k h => ⟨by rw [hsz]; omega, by omega⟩))
  have hp1 : w1.cell? ⟨p, 3, none⟩ = some (.int .i64 b) := by rw [hk1.cell lp]; exact unhide HP
  have he1 : w1.heap[e]? = some (.cells #[.int .i64 o, .string s] 55 (0, 0)) := by rw [hk1.block e le]; exact unhide HE
  have he0 : w1.cell? ⟨e, 0, none⟩ = some (.int .i64 o) := cell_of he1 0
  have hf0 := frozen_of he1 0
  have HK := hide hk1
  clear hk hsz hk1 he1
  go_wp2
  go_region
  all_goals go_wp2
  all_goals go_ret
  all_goals exact ⟨rfl, (((unhide HK).mono (fun k h => h.1)).setCell (fun h => h.2 rfl) _).drew⟩
end Go.Proofs.Qxb6614003aFmt
