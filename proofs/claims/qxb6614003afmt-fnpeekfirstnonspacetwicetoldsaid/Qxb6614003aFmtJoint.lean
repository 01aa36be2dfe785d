/-
  slices.Grow and io.ReadAtLeast, each in ONE contract over all its ways.
-/
import Derived.Test.Qxb6614003aFmtAtLeast
namespace Go.Proofs.Qxb6614003aFmt
open Go.RowKit
set_option linter.unusedVariables false

/-- WHAT THE PACKAGE-LEVEL VARIABLES HOLD, all below block B: io.ErrUnexpectedEOF, io.EOF: two pointers to two rows. -/
structure Glob (B : Nat) (x0 x1 : Addr) (w : World) : Prop where
  two : 1 < B
  b0 : x0.block < B
  b1 : x1.block < B
  g0 : w.cell? ⟨0, 0, none⟩ = some (.iface 81 (.pointer (some x0)))
  g1 : w.cell? ⟨1, 0, none⟩ = some (.iface 81 (.pointer (some x1)))
  ne : x0 ≠ x1
  r0 : ∃ c t, w.heap[x0.block]? = some (.cells c t (0, 0))
  r1 : ∃ c t, w.heap[x1.block]? = some (.cells c t (0, 0))
theorem Glob.below {B : Nat} {x0 x1 : Addr} {w w' : World} (h : Glob B x0 x1 w) (hb : Below B w w') : Glob B x0 x1 w' :=
  ⟨h.two, h.b0, h.b1, by rw [hb.cell (by have := h.two; show 0 < B; omega)]; exact h.g0, by rw [hb.cell (show 1 < B from h.two)]; exact h.g1, h.ne,
   by rw [hb.block _ h.b0]; exact h.r0, by rw [hb.block _ h.b1]; exact h.r1⟩
theorem Glob.mono {B C : Nat} {x0 x1 : Addr} {w : World} (h : Glob B x0 x1 w) (hb : B ≤ C) : Glob C x0 x1 w :=
  ⟨by have := h.two; omega, by have := h.b0; omega, by have := h.b1; omega, h.g0, h.g1, h.ne, h.r0, h.r1⟩

/-- THE TEXT: nil, or a row of its own at block d. -/
def Text (w : World) (d : Nat) (dv : Value) (zs : List Int) : Prop :=
  (dv = .slice none 0 0 ∧ zs = []) ∨ (dv = .slice (some ⟨d, 0, none⟩) zs.length zs.length ∧ w.heap[d]? = some (.cells (U zs).toArray 5 (0, 0)))
theorem Text.of_block {w w' : World} {d : Nat} {dv : Value} {zs : List Int} (h : Text w d dv zs) (hb : w'.heap[d]? = w.heap[d]?) : Text w' d dv zs := by
  rcases h with h | ⟨h1, h2⟩
  · exact .inl h
  · exact .inr ⟨h1, by rw [hb]; exact h2⟩

/-- slices.Grow, both ways. -/
theorem grow_any (a : Option Addr) (C : Nat) (w : World)
    (h : (a = none ∧ C = 0) ∨ ∃ (g : Nat) (cur : List Value), a = some ⟨g, 0, none⟩ ∧ w.heap[g]? = some (.cells cur.toArray 5 (0, 0)) ∧ 32768 ≤ C ∧ C ≤ cur.length ∧ C ≤ 9223372036854775807) :
    Calls Tryf.prog 34 #[.slice a 0 C, .int .i64 32768] w fun e w' => ∃ (g C' : Nat) (cur : List Value), e = .returned (.slice (some ⟨g, 0, none⟩) 0 C') ∧ 32768 ≤ C' ∧ C' ≤ 9223372036854775807 ∧ C' ≤ cur.length ∧
      w'.heap[g]? = some (.cells cur.toArray 5 (0, 0)) ∧ Below w.heap.size w w' ∧ (a = some ⟨g, 0, none⟩ ∨ g = w.heap.size) := by
  rcases h with ⟨rfl, rfl⟩ | ⟨g, cur, rfl, hg, h1, h2, h3⟩
  · refine (grow_nil w).mono ?_
    rintro e w' ⟨C, arr, h1, h2, h3, rfl, rfl⟩
    refine ⟨w.heap.size, C, arr.toList, rfl, h1, h2, by simp [h3], ?_, ((Below.refl _ w).alloc (Nat.le_refl _) _).drew, .inr rfl⟩
    show (w.alloc _).heap[w.heap.size]? = _
    rw [heap_new]
  · refine (grow_room (some ⟨g, 0, none⟩) C 32768 w (by decide) (by omega) h3).mono ?_
    rintro e w' ⟨rfl, rfl⟩
    exact ⟨g, C, cur, rfl, h1, h3, h2, hg, Below.refl _ _, .inl rfl⟩

/-- io.ReadAtLeast, all its ways. -/
theorem atLeast_any (q g d mc i : Nat) (dv : Value) (pr : Int) (zs : List Int) (cur : List Value) (x0 x1 : Addr) (B : Nat) (M : Int) (m : Nat) (w : World) (hM : M = (m : Int))
    (hq : w.heap[q]? = some (.cells #[dv, .int .i64 i, .int .i64 pr] 57 (0, 0)))
    (hd : Text w d dv zs)
    (hg : w.heap[g]? = some (.cells cur.toArray 5 (0, 0))) (hgq : g ≠ q) (hdq : d ≠ q) (hl : zs.length ≤ 1000000000) (hm0 : 0 < m) (hmb : m ≤ 1000000000) (hm : m ≤ mc) (hmc : mc ≤ 9223372036854775807) (hfit : m ≤ cur.length) (hi : i ≤ zs.length)
    (hG : Glob B x0 x1 w) (hqB : B ≤ q) (hgB : B ≤ g) :
    Calls Tryf.prog 35 #[.iface 44 (.pointer (some ⟨q, 0, none⟩)), .slice (some ⟨g, 0, none⟩) m mc, .int .i64 M] w fun e w' => ∃ (k : Nat) (ev : Value) (pr' : Int), e = .returned (.tuple #[.int .i64 k, ev]) ∧
      k ≤ m ∧ i + k ≤ zs.length ∧ ((k = m ∧ ev = .nilIface) ∨ (i + k = zs.length ∧ (ev = .iface 81 (.pointer (some x0)) ∨ ev = .iface 81 (.pointer (some x1))))) ∧
      Only (fun b => b = q ∨ b = g) w w' ∧ w'.heap[q]? = some (.cells #[dv, .int .i64 ((i + k : Nat) : Int), .int .i64 pr'] 57 (0, 0)) ∧
      w'.heap[g]? = some (.cells (splice cur 0 (part zs i k)).toArray 5 (0, 0)) := by
  subst hM
  have h2 := hG.two
  by_cases he : i = zs.length
  · have hE : ∃ a n cap, dv = .slice a n cap ∧ n = zs.length := by
      rcases hd with ⟨h, h'⟩ | ⟨h, _⟩
      · exact ⟨none, 0, 0, h, by rw [h']; rfl⟩
      · exact ⟨_, _, _, h, rfl⟩
    obtain ⟨a, n, cap, rfl, hn⟩ := hE
    refine (atLeast_eof q g m mc a n cap i x1 w (cell_of hq 0) (cell_of hq 1) (by omega) hG.g1 hm0 hm hmc).mono ?_
    rintro e w' ⟨rfl, hs⟩
    refine ⟨0, _, pr, rfl, by omega, by omega, .inr ⟨by omega, .inr rfl⟩, hs.only, by rw [hs.heap]; simpa using hq, ?_⟩
    rw [hs.heap, hg]
    simp [part, splice, U]
  · have hd' : dv = .slice (some ⟨d, 0, none⟩) zs.length zs.length ∧ w.heap[d]? = some (.cells (U zs).toArray 5 (0, 0)) := by
      rcases hd with ⟨_, h⟩ | h
      · rw [h] at he hi; simp at he hi; omega
      · exact h
    obtain ⟨rfl, hd'⟩ := hd'
    by_cases hf : i + m ≤ zs.length
    · refine (atLeast_full q g d m mc i pr zs cur w hq hd' hg hgq hdq hl hm0 hmb hm hmc hfit hf).mono ?_
      rintro e w' ⟨rfl, h1, h2, h3⟩
      exact ⟨m, _, -1, rfl, Nat.le_refl _, hf, .inl ⟨rfl, rfl⟩, h1, h2, h3⟩
    · refine (atLeast_part q g d m mc i (zs.length - i) pr zs cur x0 x1 w hq hd' hg hgq hdq hl hm0 hmb hm hmc hfit (by omega) (by omega) (by omega) hG.g0 hG.g1 (by omega) (by omega)).mono ?_
      rintro e w' ⟨rfl, h1, h2, h3⟩
      exact ⟨zs.length - i, _, -1, rfl, by omega, by omega, .inr ⟨by omega, .inl rfl⟩, h1, by rw [h2, show i + (zs.length - i) = zs.length by omega], h3⟩
end Go.Proofs.Qxb6614003aFmt
