/-
  io.ReadAtLeast, walked over Go's own text, at a bytes.Reader.
-/
import Derived.Test.Qxb6614003aFmtRead
import Derived.Deep.RegionWith
namespace Go.Proofs.Qxb6614003aFmt
open Go.RowKit
set_option linter.unusedVariables false

theorem nil_ahead (a : Addr) (w : World) : (nilAhead 233 44 (.pointer (some a)) "Read").run Tryf.prog w = .ok (some false) w := by kernel_rfl
theorem method_read (a : Addr) (w : World) : (method 233 44 (.pointer (some a)) "Read").run Tryf.prog w = .ok (66, .pointer (some a)) w := by kernel_rfl

set_option maxRecDepth 100000 in
set_option maxHeartbeats 400000 in
/-- At the end of the text: nothing, io.EOF. -/
theorem atLeast_eof (q g m mc : Nat) (a : Option Addr) (n cap : Nat) (i : Int) (x1 : Addr) (w : World) (h0 : w.cell? ⟨q, 0, none⟩ = some (.slice a n cap)) (h1 : w.cell? ⟨q, 1, none⟩ = some (.int .i64 i)) (hi : (n : Int) ≤ i)
    (hE : w.cell? ⟨1, 0, none⟩ = some (.iface 81 (.pointer (some x1)))) (hm0 : 0 < m) (hm : m ≤ mc) (hmc : mc ≤ 9223372036854775807) :
    Calls Tryf.prog 35 #[.iface 44 (.pointer (some ⟨q, 0, none⟩)), .slice (some ⟨g, 0, none⟩) m mc, .int .i64 m] w fun e w' => e = .returned (.tuple #[.int .i64 0, .iface 81 (.pointer (some x1))]) ∧ Still w w' := by
  have hna := nil_ahead
  have hmr := method_read
  go_enter Tryf.func35, Tryf.ntmps35
  go_wp2
  refine wp_loop_rounds 2 ?_
  rw [rounds_succ]
  go_wp2
  go_region_with (go_at_call 66; refine (read_eof q a n cap i _ x1 _ (by exact h0) (by exact h1) hi (by exact hE)).mono ?_; rintro e w' ⟨rfl, hst⟩)
  go_wp2
  rw [rounds_succ]
  go_wp2
  go_ret2
  exact ⟨rfl, (Still.refl w).drew.trans hst⟩

theorem Tryf.comp81 : (Tryf.prog.info? 81).map (·.comparable) = some true := by kernel_rfl
theorem Tryf.size83 : (Tryf.prog.info? 83).map (·.size) = some 1 := by kernel_rfl
theorem eql_same (x : Addr) (w : World) : (binOp .eql 29 (.iface 81 (.pointer (some x))) (.iface 81 (.pointer (some x)))).run Tryf.prog w = .ok (.bool true) w := by
  obtain ⟨i, hi, hcmp⟩ := Option.map_eq_some_iff.1 Tryf.comp81
  obtain ⟨j, hj, _⟩ := Option.map_eq_some_iff.1 Tryf.size83
  exact run_eql_iface_ptr_same w x Tryf.underlying29 Tryf.underlying81 hi hcmp hj
theorem eql_other (x y : Addr) (w : World) (hne : x ≠ y) {cx cy : Array Value} {tx ty : TypeId} (hx : w.heap[x.block]? = some (.cells cx tx (0, 0))) (hy : w.heap[y.block]? = some (.cells cy ty (0, 0))) :
    (binOp .eql 29 (.iface 81 (.pointer (some x))) (.iface 81 (.pointer (some y)))).run Tryf.prog w = .ok (.bool false) w := by
  obtain ⟨i, hi, hcmp⟩ := Option.map_eq_some_iff.1 Tryf.comp81
  obtain ⟨j, hj, hjs⟩ := Option.map_eq_some_iff.1 Tryf.size83
  exact run_eql_iface_ptr_other w Tryf.underlying29 Tryf.underlying81 hi hcmp hj (by rw [hjs]; decide) hne hx hy

set_option maxRecDepth 100000 in
set_option maxHeartbeats 400000 in
/-- As many bytes left as are asked for, or more: one round. -/
theorem atLeast_full (q g d m mc i : Nat) (pr : Int) (zs : List Int) (cur : List Value) (w : World)
    (hq : w.heap[q]? = some (.cells #[.slice (some ⟨d, 0, none⟩) zs.length zs.length, .int .i64 i, .int .i64 pr] 57 (0, 0)))
    (hd : w.heap[d]? = some (.cells (U zs).toArray 5 (0, 0)))
    (hg : w.heap[g]? = some (.cells cur.toArray 5 (0, 0))) (hgq : g ≠ q) (hdq : d ≠ q) (hl : zs.length ≤ 1000000000) (hm0 : 0 < m) (hmb : m ≤ 1000000000) (hm : m ≤ mc) (hmc : mc ≤ 9223372036854775807) (hfit : m ≤ cur.length) (hi : i + m ≤ zs.length) :
    Calls Tryf.prog 35 #[.iface 44 (.pointer (some ⟨q, 0, none⟩)), .slice (some ⟨g, 0, none⟩) m mc, .int .i64 m] w fun e w' => e = .returned (.tuple #[.int .i64 m, .nilIface]) ∧
      Only (fun b => b = q ∨ b = g) w w' ∧ w'.heap[q]? = some (.cells #[.slice (some ⟨d, 0, none⟩) zs.length zs.length, .int .i64 ((i + m : Nat) : Int), .int .i64 (-1)] 57 (0, 0)) ∧
      w'.heap[g]? = some (.cells (splice cur 0 (part zs i m)).toArray 5 (0, 0)) := by
  have hna := nil_ahead
  have hmr := method_read
  have HC := fun wx hq hd hg => read_some q g d 0 m mc i m pr zs cur wx hq hd hg hgq hdq hl hmb (by omega) hm0 (by omega) (Nat.le_refl _) hi (.inl rfl)
  have HQ : Hid (w.heap[q]? = some (.cells #[.slice (some ⟨d, 0, none⟩) zs.length zs.length, .int .i64 i, .int .i64 pr] 57 (0, 0)) ∧ w.heap[d]? = some (.cells (U zs).toArray 5 (0, 0)) ∧ w.heap[g]? = some (.cells cur.toArray 5 (0, 0))) := ⟨hq, hd, hg⟩
  have HC' := hide HC
  clear HC hq hd hg
  go_enter Tryf.func35, Tryf.ntmps35
  go_wp2
  refine wp_loop_rounds 2 ?_
  rw [rounds_succ]
  go_wp2
  go_region_with (go_at_call 66; refine (unhide HC' _ (by exact HQ.out.1) (by exact HQ.out.2.1) (by exact HQ.out.2.2)).mono ?_; rintro e w' ⟨rfl, hst⟩)
  have HST := hide hst
  clear hst
  go_wp2
  rw [rounds_succ]
  go_wp2
  go_ret2
  obtain ⟨h1, h2, h3⟩ := unhide HST
  exact ⟨rfl, (Only.refl _ w).drew.trans h1, h2, h3⟩

set_option maxRecDepth 100000 in
set_option maxHeartbeats 400000 in
/-- Fewer bytes left than are asked for, yet one at least: two rounds; io.ErrUnexpectedEOF. -/
theorem atLeast_part (q g d m mc i k : Nat) (pr : Int) (zs : List Int) (cur : List Value) (x0 x1 : Addr) (w : World)
    (hq : w.heap[q]? = some (.cells #[.slice (some ⟨d, 0, none⟩) zs.length zs.length, .int .i64 i, .int .i64 pr] 57 (0, 0)))
    (hd : w.heap[d]? = some (.cells (U zs).toArray 5 (0, 0)))
    (hg : w.heap[g]? = some (.cells cur.toArray 5 (0, 0))) (hgq : g ≠ q) (hdq : d ≠ q) (hl : zs.length ≤ 1000000000) (hm0 : 0 < m) (hmb : m ≤ 1000000000) (hm : m ≤ mc) (hmc : mc ≤ 9223372036854775807) (hfit : m ≤ cur.length) (hk : 0 < k) (hi : i + k = zs.length) (hkm : k < m)
    (hg0 : w.cell? ⟨0, 0, none⟩ = some (.iface 81 (.pointer (some x0)))) (hg1 : w.cell? ⟨1, 0, none⟩ = some (.iface 81 (.pointer (some x1)))) (hq0 : q ≠ 0) (hq1 : q ≠ 1) (hgn0 : g ≠ 0) (hgn1 : g ≠ 1) :
    Calls Tryf.prog 35 #[.iface 44 (.pointer (some ⟨q, 0, none⟩)), .slice (some ⟨g, 0, none⟩) m mc, .int .i64 m] w fun e w' => e = .returned (.tuple #[.int .i64 k, .iface 81 (.pointer (some x0))]) ∧
      Only (fun b => b = q ∨ b = g) w w' ∧ w'.heap[q]? = some (.cells #[.slice (some ⟨d, 0, none⟩) zs.length zs.length, .int .i64 (zs.length : Int), .int .i64 (-1)] 57 (0, 0)) ∧
      w'.heap[g]? = some (.cells (splice cur 0 (part zs i k)).toArray 5 (0, 0)) := by
  have hna := nil_ahead
  have hmr := method_read
  have hes := eql_same
  have HC := fun wx hq hd hg => read_some q g d 0 m mc i k pr zs cur wx hq hd hg hgq hdq hl hmb (by omega) hm0 (by omega) (by omega) (by omega) (.inr hi)
  have HQ : Hid (w.heap[q]? = some (.cells #[.slice (some ⟨d, 0, none⟩) zs.length zs.length, .int .i64 i, .int .i64 pr] 57 (0, 0)) ∧ w.heap[d]? = some (.cells (U zs).toArray 5 (0, 0)) ∧ w.heap[g]? = some (.cells cur.toArray 5 (0, 0))) := ⟨hq, hd, hg⟩
  have HC' := hide HC
  have HI := hide hi
  have hk2 : k ≤ 1000000000 := by omega
  have hk3 : k ≤ m := by omega
  have hk4 : ¬ mc = k := by omega
  have hk5 : ¬ m = k := by omega
  clear HC hq hd hg hi
  go_enter Tryf.func35, Tryf.ntmps35
  go_wp2
  refine wp_loop_rounds 3 ?_
  rw [rounds_succ]
  go_wp2
  go_region_with (go_at_call 66; refine (unhide HC' _ (by exact HQ.out.1) (by exact HQ.out.2.1) (by exact HQ.out.2.2)).mono ?_; rintro e w' ⟨rfl, hst⟩)
  have h0' : w'.cell? ⟨0, 0, none⟩ = some (.iface 81 (.pointer (some x0))) := by
    rw [World.cell?_of_block (w := w) (hst.1.block 0 (by omega))]; exact hg0
  have h1' : w'.cell? ⟨1, 0, none⟩ = some (.iface 81 (.pointer (some x1))) := by
    rw [World.cell?_of_block (w := w) (hst.1.block 1 (by omega))]; exact hg1
  have q0 : w'.cell? ⟨q, 0, none⟩ = some (.slice (some ⟨d, 0, none⟩) zs.length zs.length) := cell_of hst.2.1 0
  have q1 : w'.cell? ⟨q, 1, none⟩ = some (.int .i64 ((i + k : Nat) : Int)) := cell_of hst.2.1 1
  have HE := hide (fun (b : Value) (wx : World) => read_eof q (some ⟨d, 0, none⟩) zs.length zs.length ((i + k : Nat) : Int) b x1 wx)
  have HST := hide hst
  have Q0 := hide q0
  have Q1 := hide q1
  clear hst q0 q1
  go_wp2
  rw [rounds_succ]
  go_wp2
  go_region_with (go_at_call 66; refine (unhide HE _ _ (by exact unhide Q0) (by exact unhide Q1) (by have := unhide HI; omega) (by exact h1')).mono ?_; rintro e w2 ⟨rfl, hst2⟩)
  have h02 : w2.cell? ⟨0, 0, none⟩ = some (.iface 81 (.pointer (some x0))) := by
    rw [World.cell?_of_block (w := w') (by rw [hst2.heap]; rfl)]; exact h0'
  have h12 : w2.cell? ⟨1, 0, none⟩ = some (.iface 81 (.pointer (some x1))) := by
    rw [World.cell?_of_block (w := w') (by rw [hst2.heap]; rfl)]; exact h1'
  have HS2 := hide hst2
  clear hst2
  go_wp2
  rw [rounds_succ]
  go_wp2
  go_ret2
  obtain ⟨a1, a2, a3⟩ := unhide HST
  have b1 : Still w' w2 := (Still.refl w').drew.trans (unhide HS2)
  refine ⟨rfl, ((Only.refl _ w).drew.trans a1).still b1, ?_, ?_⟩
  · rw [b1.heap, a2, unhide HI]
  · rw [b1.heap, a3]
end Go.Proofs.Qxb6614003aFmt
