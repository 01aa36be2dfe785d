/-
  slices.Grow and io.ReadAtLeast, each in ONE contract over all its ways.
-/
import Derived.Test.Qxb6614003aFmtAtLeast
namespace Go.Proofs.Qxb6614003aFmt
open Go.RowKit
set_option linter.unusedVariables false

/-- THE BLOCKS OF L ARE AS THEY WERE; the streams too; no block has gone. -/
structure Keep (L : Nat → Prop) (w w' : World) : Prop where
  os : w'.os = w.os
  tape : w'.tape = w.tape
  output : w'.output = w.output
  size : w.heap.size ≤ w'.heap.size
  block : ∀ k, L k → w'.heap[k]? = w.heap[k]?
section
variable {L : Nat → Prop} {a b c w w' : World}
theorem Keep.refl (L : Nat → Prop) (w : World) : Keep L w w := ⟨rfl, rfl, rfl, Nat.le_refl _, fun _ _ => rfl⟩
theorem Keep.trans (h : Keep L a b) (k : Keep L b c) : Keep L a c :=
  ⟨k.os.trans h.os, k.tape.trans h.tape, k.output.trans h.output, Nat.le_trans h.size k.size, fun i hi => (k.block i hi).trans (h.block i hi)⟩
theorem Keep.drew (h : Keep L a b) : Keep L a b.drew := ⟨h.os, h.tape, h.output, h.size, h.block⟩
theorem Keep.setCell (h : Keep L a w) {p o : Nat} (hp : ¬ L p) (u : Value) : Keep L a (w.setCell ⟨p, o, none⟩ u) :=
  h.trans ⟨rfl, rfl, rfl, by simp [World.setCell], fun k hk => Below.heap_setCell _ _ _ _ (fun e => hp (by have e' : k = p := e; rw [← e']; exact hk))⟩
theorem Keep.cell (h : Keep L w w') {p : Addr} (hp : L p.block) : w'.cell? p = w.cell? p := World.cell?_of_block (w := w) (h.block p.block hp)
theorem Keep.of_below {B : Nat} (h : Below B w w') (hL : ∀ k, L k → k < B) : Keep L w w' := ⟨h.os, h.tape, h.output, h.size, fun k hk => h.block k (hL k hk)⟩
theorem Keep.below {B : Nat} (h : Keep L w w') (hL : ∀ k, k < B → L k) : Below B w w' := ⟨h.os, h.tape, h.output, h.size, fun k hk => h.block k (hL k hk)⟩
theorem Keep.mono {M : Nat → Prop} (h : Keep L w w') (hL : ∀ k, M k → L k) : Keep M w w' := ⟨h.os, h.tape, h.output, h.size, fun k hk => h.block k (hL k hk)⟩
theorem Only.keep {S : Nat → Prop} (h : Only S w w') (hs : ∀ k, S k → ¬ L k) : Keep L w w' := ⟨h.os, h.tape, h.output, by rw [h.size]; exact Nat.le_refl _, fun i hi => h.block i (fun k => hs i k hi)⟩
theorem Still.keep (h : Still w w') : Keep L w w' := ⟨h.os, h.tape, h.output, by rw [h.heap]; exact Nat.le_refl _, fun i _ => by rw [h.heap]⟩
end

/-- WHAT THE PACKAGE-LEVEL VARIABLES HOLD, all in blocks of L: io.ErrUnexpectedEOF, io.EOF: two pointers to two rows. -/
structure Glob (L : Nat → Prop) (x0 x1 : Addr) (w : World) : Prop where
  l0 : L 0
  l1 : L 1
  b0 : L x0.block
  b1 : L x1.block
  lim : ∀ k, L k → k < w.heap.size
  g0 : w.cell? ⟨0, 0, none⟩ = some (.iface 81 (.pointer (some x0)))
  g1 : w.cell? ⟨1, 0, none⟩ = some (.iface 81 (.pointer (some x1)))
  ne : x0 ≠ x1
  r0 : ∃ c t, w.heap[x0.block]? = some (.cells c t (0, 0))
  r1 : ∃ c t, w.heap[x1.block]? = some (.cells c t (0, 0))
theorem Glob.keep {L : Nat → Prop} {x0 x1 : Addr} {w w' : World} (h : Glob L x0 x1 w) (hb : Keep L w w') : Glob L x0 x1 w' :=
  ⟨h.l0, h.l1, h.b0, h.b1, fun k hk => Nat.lt_of_lt_of_le (h.lim k hk) hb.size, by rw [hb.cell h.l0]; exact h.g0, by rw [hb.cell h.l1]; exact h.g1, h.ne,
   by rw [hb.block _ h.b0]; exact h.r0, by rw [hb.block _ h.b1]; exact h.r1⟩
/-- Other blocks may be kept, if only those of the variables are among them. -/
theorem Glob.other {L M : Nat → Prop} {x0 x1 : Addr} {w : World} (h : Glob L x0 x1 w) (l0 : M 0) (l1 : M 1) (b0 : M x0.block) (b1 : M x1.block) (lim : ∀ k, M k → k < w.heap.size) : Glob M x0 x1 w :=
  ⟨l0, l1, b0, b1, lim, h.g0, h.g1, h.ne, h.r0, h.r1⟩
theorem Glob.not {L : Nat → Prop} {x0 x1 : Addr} {w : World} (h : Glob L x0 x1 w) {p : Nat} (hp : ¬ L p) : p ≠ 0 ∧ p ≠ 1 := ⟨fun e => hp (by rw [e]; exact h.l0), fun e => hp (by rw [e]; exact h.l1)⟩

/-- THE TEXT: nil, or a row of its own at block d. -/
def Text (w : World) (d : Nat) (dv : Value) (zs : List Int) : Prop :=
  (dv = .slice none 0 0 ∧ zs = []) ∨ (dv = .slice (some ⟨d, 0, none⟩) zs.length zs.length ∧ w.heap[d]? = some (.cells (U zs).toArray 5 (0, 0)))
theorem Text.of_block {w w' : World} {d : Nat} {dv : Value} {zs : List Int} (h : Text w d dv zs) (hb : w'.heap[d]? = w.heap[d]?) : Text w' d dv zs := by
  rcases h with h | ⟨h1, h2⟩
  · exact .inl h
  · exact .inr ⟨h1, by rw [hb]; exact h2⟩

/-- slices.Grow, both ways. -/
theorem grow_any (a : Option Addr) (C : Nat) (w : World)
    (h : (a = none ∧ C = 0) ∨ ∃ (g : Nat) (cur : List Value), a = some ⟨g, 0, none⟩ ∧ w.heap[g]? = some (.cells cur.toArray 5 (0, 0)) ∧ 32768 ≤ C ∧ C ≤ cur.length ∧ C ≤ 9223372036854775807) :
    Calls Tryf.prog 34 #[.slice a 0 C, .int .i64 32768] w fun e w' => ∃ (g C' : Nat) (cur : List Value), e = .returned (.slice (some ⟨g, 0, none⟩) 0 C') ∧ 32768 ≤ C' ∧ C' ≤ 9223372036854775807 ∧ C' ≤ cur.length ∧
      w'.heap[g]? = some (.cells cur.toArray 5 (0, 0)) ∧ Below w.heap.size w w' ∧ (a = some ⟨g, 0, none⟩ ∨ g = w.heap.size) := by
  rcases h with ⟨rfl, rfl⟩ | ⟨g, cur, rfl, hg, h1, h2, h3⟩
  · refine (grow_nil w).mono ?_
    rintro e w' ⟨C, arr, h1, h2, h3, rfl, rfl⟩
    refine ⟨w.heap.size, C, arr.toList, rfl, h1, h2, by simp [h3], ?_, ((Below.refl _ w).alloc (Nat.le_refl _) _).drew, .inr rfl⟩
    show (w.alloc _).heap[w.heap.size]? = _
    rw [heap_new]
  · refine (grow_room (some ⟨g, 0, none⟩) C 32768 w (by decide) (by omega) h3).mono ?_
    rintro e w' ⟨rfl, rfl⟩
    exact ⟨g, C, cur, rfl, h1, h3, h2, hg, Below.refl _ _, .inl rfl⟩

/-- io.ReadAtLeast, all its ways. -/
theorem atLeast_any (q g d mc i : Nat) (dv : Value) (pr : Int) (zs : List Int) (cur : List Value) (x0 x1 : Addr) (L : Nat → Prop) (M : Int) (m : Nat) (w : World) (hM : M = (m : Int))
    (hq : w.heap[q]? = some (.cells #[dv, .int .i64 i, .int .i64 pr] 57 (0, 0)))
    (hd : Text w d dv zs)
    (hg : w.heap[g]? = some (.cells cur.toArray 5 (0, 0))) (hgq : g ≠ q) (hdq : d ≠ q) (hl : zs.length ≤ 1000000000) (hm0 : 0 < m) (hmb : m ≤ 1000000000) (hm : m ≤ mc) (hmc : mc ≤ 9223372036854775807) (hfit : m ≤ cur.length) (hi : i ≤ zs.length)
    (hG : Glob L x0 x1 w) (hqB : ¬ L q) (hgB : ¬ L g) :
    Calls Tryf.prog 35 #[.iface 44 (.pointer (some ⟨q, 0, none⟩)), .slice (some ⟨g, 0, none⟩) m mc, .int .i64 M] w fun e w' => ∃ (k : Nat) (ev : Value) (pr' : Int), e = .returned (.tuple #[.int .i64 k, ev]) ∧
      k ≤ m ∧ i + k ≤ zs.length ∧ ((k = m ∧ ev = .nilIface) ∨ (i + k = zs.length ∧ (ev = .iface 81 (.pointer (some x0)) ∨ ev = .iface 81 (.pointer (some x1))))) ∧
      Only (fun b => b = q ∨ b = g) w w' ∧ w'.heap[q]? = some (.cells #[dv, .int .i64 ((i + k : Nat) : Int), .int .i64 pr'] 57 (0, 0)) ∧
      w'.heap[g]? = some (.cells (splice cur 0 (part zs i k)).toArray 5 (0, 0)) := by
  subst hM
  have hqn := hG.not hqB
  have hgn := hG.not hgB
  by_cases he : i = zs.length
  · have hE : ∃ a n cap, dv = .slice a n cap ∧ n = zs.length := by
      rcases hd with ⟨h, h'⟩ | ⟨h, _⟩
      · exact ⟨none, 0, 0, h, by rw [h']; rfl⟩
      · exact ⟨_, _, _, h, rfl⟩
    obtain ⟨a, n, cap, rfl, hn⟩ := hE
    refine (atLeast_eof q g m mc a n cap i x1 w (cell_of hq 0) (cell_of hq 1) (by omega) hG.g1 hm0 hm hmc).mono ?_
    rintro e w' ⟨rfl, hs⟩
    refine ⟨0, _, pr, rfl, by omega, by omega, .inr ⟨by omega, .inr rfl⟩, hs.only, by rw [hs.heap]; simpa using hq, ?_⟩
    rw [hs.heap, hg]
    simp [part, splice, U]
  · have hd' : dv = .slice (some ⟨d, 0, none⟩) zs.length zs.length ∧ w.heap[d]? = some (.cells (U zs).toArray 5 (0, 0)) := by
      rcases hd with ⟨_, h⟩ | h
      · rw [h] at he hi; simp at he hi; omega
      · exact h
    obtain ⟨rfl, hd'⟩ := hd'
    by_cases hf : i + m ≤ zs.length
    · refine (atLeast_full q g d m mc i pr zs cur w hq hd' hg hgq hdq hl hm0 hmb hm hmc hfit hf).mono ?_
      rintro e w' ⟨rfl, h1, h2, h3⟩
      exact ⟨m, _, -1, rfl, Nat.le_refl _, hf, .inl ⟨rfl, rfl⟩, h1, h2, h3⟩
    · refine (atLeast_part q g d m mc i (zs.length - i) pr zs cur x0 x1 w hq hd' hg hgq hdq hl hm0 hmb hm hmc hfit (by omega) (by omega) (by omega) hG.g0 hG.g1 hqn.1 hqn.2 hgn.1 hgn.2).mono ?_
      rintro e w' ⟨rfl, h1, h2, h3⟩
      exact ⟨zs.length - i, _, -1, rfl, by omega, by omega, .inr ⟨by omega, .inl rfl⟩, h1, by rw [h2, show i + (zs.length - i) = zs.length by omega], h3⟩
end Go.Proofs.Qxb6614003aFmt
