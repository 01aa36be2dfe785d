/-
  (*bytes.Reader).Read and io.ReadAtLeast, walked over Go's own text.
-/
import Derived.Test.Qxb6614003aFmtMem
import Derived.Deep.QuietTactic
import Derived.BigQuiet
import Derived.BigRegion
import Derived.LaidEql
namespace Go.Proofs.Qxb6614003aFmt
open Go.RowKit
set_option linter.unusedVariables false

/-- THE MEMORY STANDS: at most the tape has been drawn from. -/
structure Still (w w' : World) : Prop where
  os : w'.os = w.os
  tape : w'.tape = w.tape
  output : w'.output = w.output
  heap : w'.heap = w.heap
theorem Still.refl (w : World) : Still w w := ⟨rfl, rfl, rfl, rfl⟩
theorem Still.trans {a b c : World} (h : Still a b) (k : Still b c) : Still a c := ⟨k.os.trans h.os, k.tape.trans h.tape, k.output.trans h.output, k.heap.trans h.heap⟩
theorem Still.drew {a b : World} (h : Still a b) : Still a b.drew := ⟨h.os, h.tape, h.output, h.heap⟩
theorem Still.drewN {a b : World} (h : Still a b) (n : Nat) : Still a (b.drewN n) := ⟨h.os, h.tape, h.output, h.heap⟩

/-- The cells of a block that is known whole. -/
theorem cell_of {w : World} {b : Nat} {cs : Array Value} {t : TypeId} (h : w.heap[b]? = some (.cells cs t (0, 0))) (o : Nat) : w.cell? ⟨b, o, none⟩ = cs[o]? := by
  simp [World.cell?, h]
theorem frozen_of {w : World} {b : Nat} {cs : Array Value} {t : TypeId} (h : w.heap[b]? = some (.cells cs t (0, 0))) (o : Nat) : w.frozen? ⟨b, o, none⟩ = false := by
  simp [World.frozen?, h]

set_option maxHeartbeats 400000 in
/-- Read at the end of the text. -/
theorem read_eof (q : Nat) (a : Option Addr) (n cap : Nat) (i : Int) (b : Value) (x1 : Addr) (w : World) (h0 : w.cell? ⟨q, 0, none⟩ = some (.slice a n cap)) (h1 : w.cell? ⟨q, 1, none⟩ = some (.int .i64 i)) (hi : (n : Int) ≤ i)
    (hE : w.cell? ⟨1, 0, none⟩ = some (.iface 81 (.pointer (some x1)))) :
    Calls Tryf.prog 66 #[.pointer (some ⟨q, 0, none⟩), b] w fun e w' => e = .returned (.tuple #[.int .i64 0, .iface 81 (.pointer (some x1))]) ∧ Still w w' := by
  go_enter Tryf.func66, Tryf.ntmps66
  go_wp2
  go_quiet (fail)
  go_wp2
  go_quiet (fail)
  go_wp2
  go_ret2
  exact ⟨rfl, Still.drewN (Still.drewN (Still.refl _) _) _⟩

/-- What goes over from place i on, k bytes. -/
def part (zs : List Int) (i k : Nat) : List Value := U ((zs.drop i).take k)
theorem part_length (zs : List Int) (i k : Nat) (h : i + k ≤ zs.length) : (part zs i k).length = k := by
  simp [part, U_length]; omega
theorem part_get (zs : List Int) (i k : Nat) (j : Nat) (h : i + k ≤ zs.length) (hj : j < k) : (part zs i k)[j]? = some (.int .u8 (zs.getD (i + j) 0)) := by
  rw [part, U_get _ _ (by simp; omega)]
  simp [List.getD, hj, List.getElem?_drop]

theorem set_same {w : World} {b o : Nat} {cur : Array Value} {t : TypeId} (v : Value) (h : w.heap[b]? = some (.cells cur t (0, 0))) : (w.setCell ⟨b, o, none⟩ v).heap[b]? = some (.cells (cur.setIfInBounds o v) t (0, 0)) := by
  rw [setCell_eq_setRow w b o cur t (0, 0) v h]
  exact setRow_heap w b cur _ t _ h
theorem set_other {w : World} {b o k : Nat} (v : Value) (h : k ≠ b) : (w.setCell ⟨b, o, none⟩ v).heap[k]? = w.heap[k]? := Below.heap_setCell _ _ _ _ h

/-- 'copy' as one step of a region that draws, its run known as an equation. -/
theorem step_copy_eq {P : Program} {ops : Array Oper} {o : Oper} {a : Act} {w : World} {K : Act → World → Prop} {Q : Exit → Act → World → Prop} {E : Prop} (hgd : o.guard = none) (d s : Operand) (dT sT : TypeId)
    (ho : o.op = .call { callee := .builtin .copy, args := #[d, s], argTypes := #[dT, sT] }) (v u : Value) (hd : a.eval d = v) (hs : a.eval s = u) {v' : Value} {w' : World}
    (hr : (Builtin.copy_ #[dT, sT] o.type #[v, u]).run P w = .ok v' w') (h : K (a.put o.dst v') w') :
    if Region.wanted o (yielded ops a.tmps) = true then Oper.wp P o a w K Q else E := by
  have hw : Region.wanted o (yielded ops a.tmps) = true := by simp [Region.wanted, hgd]
  rw [if_pos hw]
  unfold Oper.wp
  simp [execOp, ho, resolve, invoke, builtin, hd, hs, hr, Result.andThen]
  exact h

/-- WHAT A CALL WRITES: the blocks of S alone; none is made. -/
structure Only (S : Nat → Prop) (w w' : World) : Prop where
  os : w'.os = w.os
  tape : w'.tape = w.tape
  output : w'.output = w.output
  size : w'.heap.size = w.heap.size
  block : ∀ k, ¬ S k → w'.heap[k]? = w.heap[k]?
theorem Only.refl (S : Nat → Prop) (w : World) : Only S w w := ⟨rfl, rfl, rfl, rfl, fun _ _ => rfl⟩
theorem Only.trans {S : Nat → Prop} {a b c : World} (h : Only S a b) (k : Only S b c) : Only S a c :=
  ⟨k.os.trans h.os, k.tape.trans h.tape, k.output.trans h.output, k.size.trans h.size, fun i hi => (k.block i hi).trans (h.block i hi)⟩
theorem Only.drew {S : Nat → Prop} {a b : World} (h : Only S a b) : Only S a b.drew := ⟨h.os, h.tape, h.output, h.size, h.block⟩
theorem Only.drewN {S : Nat → Prop} {a b : World} (h : Only S a b) (n : Nat) : Only S a (b.drewN n) := ⟨h.os, h.tape, h.output, h.size, h.block⟩
theorem Only.setCell {S : Nat → Prop} {a w : World} (h : Only S a w) {b o : Nat} (hb : S b) (v : Value) : Only S a (w.setCell ⟨b, o, none⟩ v) :=
  h.trans ⟨rfl, rfl, rfl, by simp [World.setCell], fun k hk => Below.heap_setCell _ _ _ _ (fun e => hk (by rw [e]; exact hb))⟩
theorem Only.setRow {S : Nat → Prop} {a w : World} (h : Only S a w) {b : Nat} (hb : S b) (cs : Array Value) : Only S a (w.setRow b cs) :=
  h.trans ⟨rfl, rfl, rfl, by simp [World.setRow], fun k hk => setRow_other w b k cs (fun e => hk (by rw [e]; exact hb))⟩
theorem Only.still {S : Nat → Prop} {a b c : World} (h : Only S a b) (k : Still b c) : Only S a c :=
  ⟨k.os.trans h.os, k.tape.trans h.tape, k.output.trans h.output, by rw [k.heap]; exact h.size, fun i hi => by rw [k.heap]; exact h.block i hi⟩
theorem Only.mono {S T : Nat → Prop} {a b : World} (h : Only S a b) (hs : ∀ k, S k → T k) : Only T a b := ⟨h.os, h.tape, h.output, h.size, fun i hi => h.block i (fun k => hi (hs i k))⟩
theorem Only.below {S : Nat → Prop} {a b : World} {B : Nat} (h : Only S a b) (hs : ∀ k, S k → B ≤ k) : Below B a b := ⟨h.os, h.tape, h.output, by rw [h.size]; exact Nat.le_refl _, fun i hi => h.block i (fun k => by have := hs i k; omega)⟩
theorem Still.below {a b : World} {B : Nat} (h : Still a b) : Below B a b := ⟨h.os, h.tape, h.output, by rw [h.heap]; exact Nat.le_refl _, fun i _ => by rw [h.heap]⟩
theorem Still.only {a b : World} {S : Nat → Prop} (h : Still a b) : Only S a b := ⟨h.os, h.tape, h.output, by rw [h.heap], fun i _ => by rw [h.heap]⟩

theorem add_none (b o j : Nat) : (⟨b, o, none⟩ : Addr).add j = ⟨b, o + j, none⟩ := by unfold Addr.add; split <;> simp_all

theorem read_end {w : World} {q g nq : Nat} {x y z z' y' : Value} {cur cs : Array Value} (hq : w.heap[q]? = some (.cells #[x, y, z] 57 (0, 0))) (hg : w.heap[g]? = some (.cells cur 5 (0, 0))) (hgq : g ≠ q) :
    Only (fun b => b = q ∨ b = g) w (((((w.drewN nq).setCell ⟨q, 2, none⟩ z').drew).setRow g cs).setCell ⟨q, 1, none⟩ y') ∧
    (((((w.drewN nq).setCell ⟨q, 2, none⟩ z').drew).setRow g cs).setCell ⟨q, 1, none⟩ y').heap[q]? = some (.cells #[x, y', z'] 57 (0, 0)) ∧
    (((((w.drewN nq).setCell ⟨q, 2, none⟩ z').drew).setRow g cs).setCell ⟨q, 1, none⟩ y').heap[g]? = some (.cells cs 5 (0, 0)) := by
  have e1 := set_same (w := w.drewN nq) (o := 2) z' hq
  have e2 : (((w.drewN nq).setCell ⟨q, 2, none⟩ z').drew.setRow g cs).heap[q]? = _ := (setRow_other ((w.drewN nq).setCell ⟨q, 2, none⟩ z').drew g q cs (fun e => hgq e.symm)).trans e1
  have e3 : ((w.drewN nq).setCell ⟨q, 2, none⟩ z').drew.heap[g]? = some (.cells cur 5 (0, 0)) := (set_other z' hgq).trans hg
  refine ⟨?_, ?_, ?_⟩
  · exact ((((Only.refl _ w).drewN nq).setCell (.inl rfl) _).drew.setRow (.inr rfl) _).setCell (.inl rfl) _
  · exact set_same (o := 1) y' e2
  · exact (set_other y' hgq).trans (setRow_heap _ g _ cs _ _ e3)

set_option maxHeartbeats 400000 in
/-- Read ahead of the end: as many bytes as there are, or as there is room for. -/
theorem read_some (q g d o m mc i k : Nat) (pr : Int) (zs : List Int) (cur : List Value) (w : World)
    (hq : w.heap[q]? = some (.cells #[.slice (some ⟨d, 0, none⟩) zs.length zs.length, .int .i64 i, .int .i64 pr] 57 (0, 0)))
    (hd : w.heap[d]? = some (.cells (U zs).toArray 5 (0, 0)))
    (hg : w.heap[g]? = some (.cells cur.toArray 5 (0, 0))) (hgq : g ≠ q) (hdq : d ≠ q) (hl : zs.length ≤ 1000000000) (hm : m ≤ 1000000000) (hi : i < zs.length) (hm0 : 0 < m) (hfit : o + m ≤ cur.length)
    (hk1 : k ≤ m) (hk2 : i + k ≤ zs.length) (hk3 : k = m ∨ i + k = zs.length) :
    Calls Tryf.prog 66 #[.pointer (some ⟨q, 0, none⟩), .slice (some ⟨g, o, none⟩) m mc] w fun e w' => e = .returned (.tuple #[.int .i64 k, .nilIface]) ∧
      Only (fun b => b = q ∨ b = g) w w' ∧ w'.heap[q]? = some (.cells #[.slice (some ⟨d, 0, none⟩) zs.length zs.length, .int .i64 ((i + k : Nat) : Int), .int .i64 (-1)] 57 (0, 0)) ∧
      w'.heap[g]? = some (.cells (splice cur o (part zs i k)).toArray 5 (0, 0)) := by
  have h0 : w.cell? ⟨q, 0, none⟩ = some (.slice (some ⟨d, 0, none⟩) zs.length zs.length) := cell_of hq 0
  have h1 : w.cell? ⟨q, 1, none⟩ = some (.int .i64 i) := cell_of hq 1
  have h2 : w.cell? ⟨q, 2, none⟩ = some (.int .i64 pr) := cell_of hq 2
  have f1 := frozen_of hq 1
  have f2 := frozen_of hq 2
  have h1q : ∀ (cs : Array Value) (nq : Nat), ((((w.drewN nq).setCell ⟨q, 2, none⟩ (.int .i64 (-1))).drew).setRow g cs).cell? ⟨q, 1, none⟩ = some (.int .i64 i) := by
    intro cs nq
    have : (((w.drewN nq).setCell ⟨q, 2, none⟩ (.int .i64 (-1))).setRow g cs).heap[q]? = ((w.drewN nq).setCell ⟨q, 2, none⟩ (.int .i64 (-1))).heap[q]? := setRow_other _ _ _ _ (fun e => hgq e.symm)
    have h3 := this.trans (set_same (w := w.drewN nq) (o := 2) (.int .i64 (-1)) hq)
    exact (cell_of h3 1)
  have f1q : ∀ (cs : Array Value) (nq : Nat), ((((w.drewN nq).setCell ⟨q, 2, none⟩ (.int .i64 (-1))).drew).setRow g cs).frozen? ⟨q, 1, none⟩ = false := by
    intro cs nq
    have : (((w.drewN nq).setCell ⟨q, 2, none⟩ (.int .i64 (-1))).setRow g cs).heap[q]? = ((w.drewN nq).setCell ⟨q, 2, none⟩ (.int .i64 (-1))).heap[q]? := setRow_other _ _ _ _ (fun e => hgq e.symm)
    have h3 := this.trans (set_same (w := w.drewN nq) (o := 2) (.int .i64 (-1)) hq)
    exact (frozen_of h3 1)
  obtain ⟨n, hn⟩ : ∃ n, n = zs.length := ⟨_, rfl⟩
  have HQ : Hid (w.heap[q]? = some (.cells #[.slice (some ⟨d, 0, none⟩) zs.length zs.length, .int .i64 i, .int .i64 pr] 57 (0, 0))) := hq
  have HG : Hid (w.heap[g]? = some (.cells cur.toArray 5 (0, 0))) := hg
  rw [← hn] at h0 hl hi
  have hk : k = Nat.min (n - i) m := by show k = min (n - i) m; omega
  have hle : i ≤ n := by omega
  have hne : ¬ n = i := by omega
  obtain ⟨cs, hcs⟩ : ∃ cs, cs = part zs i k := ⟨_, rfl⟩
  have hcl : cs.length = k := by rw [hcs]; exact part_length zs i k hk2
  have HR : Hid (∀ nq ty, (Builtin.copy_ #[22, 22] ty #[.slice (some ⟨g, o, none⟩) m mc, .slice (some ⟨d, i, none⟩) (n - i) (n - i)]).run Tryf.prog ((w.drewN nq).setCell ⟨q, 2, none⟩ (.int .i64 (-1))).drew =
      .ok (goInt k) ((((w.drewN nq).setCell ⟨q, 2, none⟩ (.int .i64 (-1))).drew).setRow g (splice cur o cs).toArray)) := by
    intro nq ty
    have := run_copy_row Tryf.prog ((w.drewN nq).setCell ⟨q, 2, none⟩ (.int .i64 (-1))).drew 22 22 ty 5 g o m mc ⟨d, i, none⟩ (n - i) (n - i) cur.toArray 5 cs Tryf.underlying22 Tryf.size5
      ((set_other _ hgq).trans hg) (hcl.trans hk) (fun j v hj => by
        have hj' : j < k := by
          rcases Nat.lt_or_ge j k with h1 | h1
          · exact h1
          · rw [List.getElem?_eq_none (by omega)] at hj; cases hj
        rw [hcs, part_get zs i k j hk2 hj'] at hj
        cases hj
        have hD : ((w.drewN nq).setCell ⟨q, 2, none⟩ (.int .i64 (-1))).heap[d]? = some (.cells (U zs).toArray 5 (0, 0)) := (set_other _ hdq).trans hd
        have := cell_of hD (i + j)
        rw [List.getElem?_toArray, U_get zs (i + j) (by omega)] at this
        rw [add_none]
        exact this) (by simp; omega) (by rw [hcs]; exact U_one _)
    rw [this, hcl]
    simp only [splice, hcl, List.append_assoc]
  have HN : Hid (n = zs.length ∧ k = Nat.min (n - i) m ∧ cs = part zs i k ∧ cs.length = k) := ⟨hn, hk, hcs, hcl⟩
  have hk4 : i + k ≤ n := by omega
  clear hn hk hcs hcl hq hd hg hfit hk1 hk2 hk3
  go_enter Tryf.func66, Tryf.ntmps66
  go_wp2
  go_quiet (fail)
  go_wp2
  go_region_law (refine step_copy_eq rfl (.tmp 20) (.tmp 29) 22 22 rfl _ _ rfl rfl (by exact HR.out _ _) ?_)
  all_goals
    go_wp2
    go_ret2
    obtain ⟨h1, h2, h3⟩ := read_end (nq := nq) (y' := .int .i64 ((i : Int) + (k : Int))) (z' := .int .i64 (-1)) (cs := (splice cur o cs).toArray) HQ.out HG.out hgq
    refine ⟨rfl, h1, ?_, ?_⟩
    · rw [show ((i + k : Nat) : Int) = (i : Int) + (k : Int) by omega]; exact h2
    · rw [← HN.out.2.2.1]; exact h3
end Go.Proofs.Qxb6614003aFmt
