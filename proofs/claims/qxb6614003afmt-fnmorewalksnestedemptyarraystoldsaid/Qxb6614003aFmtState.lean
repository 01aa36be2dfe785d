/-
  The Reader's state, and how it goes over stores and fill.
-/
import Derived.Test.Qxb6614003aFmtFill
import Derived.Deep.LoopGhost
namespace Go.Proofs.Qxb6614003aFmt
open Go.RowKit
set_option linter.unusedVariables false

theorem space_at (a : Option Addr) (n cap : Nat) (zs : List Int) (i : Nat) (w : World) (hzn : zs.length = n) (hi : i ≤ n) (hl : n ≤ 1000000000)
    (hc : ∀ b, a = some b → ∀ j, j < n → w.cell? (b.add j) = some (.int .u8 (zs.getD j 0))) (hn : a = none → n = 0) :
    Calls Tryf.prog 28 #[.slice a n cap, .int .i64 i] w fun e w' => e = .returned (.int .i64 (Pl.nns zs i)) ∧ w' = w := by
  subst hzn
  exact space_any a cap zs i w hi hl hc (fun h => List.eq_nil_of_length_eq_zero (hn h))

/-- THE READER's STATE, every part named. -/
structure RdS (L : Nat → Prop) (p q d : Nat) (dv : Value) (zs : List Int) (x0 x1 : Addr) (dep : Int) (a : Option Addr) (bl C base off i : Nat) (pr : Int) (eof : Bool) (w : World) : Prop where
  glob : Glob L x0 x1 w
  pB : ¬ L p
  qB : ¬ L q
  dB : L d
  pq : p ≠ q
  hp : w.heap[p]? = some (.cells (rdCells q (.slice a bl C) off base dep eof) 49 (0, 0))
  hq : w.heap[q]? = some (.cells #[dv, .int .i64 i, .int .i64 pr] 57 (0, 0))
  hd : Text w d dv zs
  room : Room L w p q d a bl C
  cont : ∀ b, a = some b → ∀ j, j < bl → w.cell? (b.add j) = some (.int .u8 (zs.getD (base + j) 0))
  hi : i ≤ zs.length
  hb : base + bl = i
  ho : off ≤ bl
  he : eof = true → i = zs.length
  hl : zs.length ≤ 100000000

/-- THE READER STANDS AT PLACE pos OF THE TEXT zs, dep deep. -/
def Rd (L : Nat → Prop) (p q d : Nat) (dv : Value) (zs : List Int) (x0 x1 : Addr) (dep : Int) (pos : Nat) (w : World) : Prop :=
  ∃ a bl C base off i pr eof, RdS L p q d dv zs x0 x1 dep a bl C base off i pr eof w ∧ pos = base + off

/-- The same, and the byte at pos, if there is one, lies in the buffer. -/
def RdB (L : Nat → Prop) (p q d : Nat) (dv : Value) (zs : List Int) (x0 x1 : Addr) (dep : Int) (pos : Nat) (w : World) : Prop :=
  ∃ a bl C base off i pr eof, RdS L p q d dv zs x0 x1 dep a bl C base off i pr eof w ∧ pos = base + off ∧ (pos < zs.length → off < bl)
theorem RdB.rd {L : Nat → Prop} {p q d : Nat} {dv : Value} {zs : List Int} {x0 x1 : Addr} {dep : Int} {pos : Nat} {w : World} (h : RdB L p q d dv zs x0 x1 dep pos w) : Rd L p q d dv zs x0 x1 dep pos w := by
  obtain ⟨a, bl, C, base, off, i, pr, eof, h, e, _⟩ := h
  exact ⟨a, bl, C, base, off, i, pr, eof, h, e⟩

theorem RdS.still {L : Nat → Prop} {p q d : Nat} {dv : Value} {zs : List Int} {x0 x1 : Addr} {dep : Int} {a : Option Addr} {bl C base off i : Nat} {pr : Int} {eof : Bool} {w w' : World}
    (h : RdS L p q d dv zs x0 x1 dep a bl C base off i pr eof w) (hs : Still w w') : RdS L p q d dv zs x0 x1 dep a bl C base off i pr eof w' := by
  refine ⟨h.glob.keep hs.keep, h.pB, h.qB, h.dB, h.pq, by rw [hs.heap]; exact h.hp, by rw [hs.heap]; exact h.hq, h.hd.of_block (by rw [hs.heap]), ?_, ?_, h.hi, h.hb, h.ho, h.he, h.hl⟩
  · rcases h.room with r | ⟨g, cur, r0, r1, r⟩
    · exact .inl r
    · exact .inr ⟨g, cur, r0, by rw [hs.heap]; exact r1, r⟩
  · intro b hb j hj
    rw [World.cell?_of_block (w := w) (by rw [hs.heap])]
    exact h.cont b hb j hj

/-- Behind a store of another offset. -/
theorem RdS.step {L : Nat → Prop} {p q d : Nat} {dv : Value} {zs : List Int} {x0 x1 : Addr} {dep : Int} {a : Option Addr} {bl C base off i : Nat} {pr : Int} {eof : Bool} {w : World}
    (h : RdS L p q d dv zs x0 x1 dep a bl C base off i pr eof w) (off' : Nat) (ho : off' ≤ bl) : RdS L p q d dv zs x0 x1 dep a bl C base off' i pr eof (w.setCell ⟨p, 2, none⟩ (.int .i64 off')) := by
  have hb : Keep L w (w.setCell ⟨p, 2, none⟩ (.int .i64 off')) := (Keep.refl _ _).setCell h.pB _
  refine ⟨h.glob.keep hb, h.pB, h.qB, h.dB, h.pq, set_same (o := 2) _ h.hp, (set_other _ (fun e => h.pq e.symm)).trans h.hq, h.hd.of_block (hb.block d h.dB), ?_, ?_, h.hi, h.hb, ho, h.he, h.hl⟩
  · rcases h.room with r | ⟨g, cur, r0, r1, r2, r3, r4, r5, r6, r⟩
    · exact .inl r
    · exact .inr ⟨g, cur, r0, by rw [set_other _ r6]; exact r1, r2, r3, r4, r5, r6, r⟩
  · intro b hb j hj
    have hne : b.block ≠ p := by
      rcases h.room with ⟨r, _⟩ | ⟨g, cur, r0, r1, r2, r3, r4, r5, r6, r⟩
      · rw [r] at hb; cases hb
      · rw [r0] at hb; cases hb; exact r6
    have hne' : (b.add j).block ≠ p := by
      have : (b.add j).block = b.block := by unfold Addr.add; split <;> rfl
      rw [this]; exact hne
    rw [World.cell?_of_block (w := w) (set_other _ hne')]
    exact h.cont b hb j hj

/-- Behind a store of another depth. -/
theorem RdS.deep {L : Nat → Prop} {p q d : Nat} {dv : Value} {zs : List Int} {x0 x1 : Addr} {dep : Int} {a : Option Addr} {bl C base off i : Nat} {pr : Int} {eof : Bool} {w : World}
    (h : RdS L p q d dv zs x0 x1 dep a bl C base off i pr eof w) (dep' : Int) : RdS L p q d dv zs x0 x1 dep' a bl C base off i pr eof (w.setCell ⟨p, 4, none⟩ (.int .i64 dep')) := by
  have hb : Keep L w (w.setCell ⟨p, 4, none⟩ (.int .i64 dep')) := (Keep.refl _ _).setCell h.pB _
  refine ⟨h.glob.keep hb, h.pB, h.qB, h.dB, h.pq, set_same (o := 4) _ h.hp, (set_other _ (fun e => h.pq e.symm)).trans h.hq, h.hd.of_block (hb.block d h.dB), ?_, ?_, h.hi, h.hb, h.ho, h.he, h.hl⟩
  · rcases h.room with r | ⟨g, cur, r0, r1, r2, r3, r4, r5, r6, r⟩
    · exact .inl r
    · exact .inr ⟨g, cur, r0, by rw [set_other _ r6]; exact r1, r2, r3, r4, r5, r6, r⟩
  · intro b hb j hj
    have hne : b.block ≠ p := by
      rcases h.room with ⟨r, _⟩ | ⟨g, cur, r0, r1, r2, r3, r4, r5, r6, r⟩
      · rw [r] at hb; cases hb
      · rw [r0] at hb; cases hb; exact r6
    have hne' : (b.add j).block ≠ p := by
      have : (b.add j).block = b.block := by unfold Addr.add; split <;> rfl
      rw [this]; exact hne
    rw [World.cell?_of_block (w := w) (set_other _ hne')]
    exact h.cont b hb j hj

/-- Behind whatever leaves every block that was there. -/
theorem RdS.kept {L : Nat → Prop} {p q d : Nat} {dv : Value} {zs : List Int} {x0 x1 : Addr} {dep : Int} {a : Option Addr} {bl C base off i : Nat} {pr : Int} {eof : Bool} {w w' : World}
    (h : RdS L p q d dv zs x0 x1 dep a bl C base off i pr eof w) (hk : Keep (fun k => k < w.heap.size) w w') : RdS L p q d dv zs x0 x1 dep a bl C base off i pr eof w' := by
  refine ⟨h.glob.keep (hk.mono h.glob.lim), h.pB, h.qB, h.dB, h.pq, by rw [hk.block p (lt_of_heap h.hp)]; exact h.hp, by rw [hk.block q (lt_of_heap h.hq)]; exact h.hq, h.hd.of_block (hk.block d (h.glob.lim d h.dB)), ?_, ?_, h.hi, h.hb, h.ho, h.he, h.hl⟩
  · rcases h.room with r | ⟨g, cur, r0, r1, r⟩
    · exact .inl r
    · exact .inr ⟨g, cur, r0, by rw [hk.block g (lt_of_heap r1)]; exact r1, r⟩
  · intro b hb j hj
    have := h.cont b hb j hj
    rw [hk.cell (lt_of_cell this)]
    exact this
theorem Rd.kept {L : Nat → Prop} {p q d : Nat} {dv : Value} {zs : List Int} {x0 x1 : Addr} {dep : Int} {pos : Nat} {w w' : World} (h : Rd L p q d dv zs x0 x1 dep pos w) (hk : Keep (fun k => k < w.heap.size) w w') : Rd L p q d dv zs x0 x1 dep pos w' := by
  obtain ⟨a, bl, C, base, off, i, pr, eof, h, e⟩ := h
  exact ⟨a, bl, C, base, off, i, pr, eof, h.kept hk, e⟩

/-- Behind fill. -/
theorem Grown.rd {L : Nat → Prop} {p q d : Nat} {dv : Value} {zs : List Int} {x0 x1 : Addr} {dep : Int} {i k : Nat} {pr : Int} {w w' : World} {g C : Nat} {cur : List Value} {eof : Bool}
    (h : Grown L p q d dv zs x0 x1 (i + k) pr ((i : Nat) : Int) dep w g C cur k eof w') (pB : ¬ L p) (qB : ¬ L q) (dB : L d) (pq : p ≠ q) (hik : i + k ≤ zs.length) (hkC : k ≤ C)
    (hcur : ∀ j, j < k → cur[j]? = some (.int .u8 (zs.getD (i + j) 0))) (he : eof = true → i + k = zs.length) (hl : zs.length ≤ 100000000) :
    RdS L p q d dv zs x0 x1 dep (some ⟨g, 0, none⟩) k C i 0 (i + k) pr eof w' := by
  refine ⟨h.glob, pB, qB, dB, pq, h.hp, h.hq, h.hd, .inr ⟨g, cur, rfl, h.hg, h.c1, h.c3, h.c2, hkC, h.gp, h.gq, h.gd, h.gB⟩, ?_, hik, rfl, Nat.zero_le _, he, hl⟩
  intro b hb j hj
  cases hb
  rw [add_none, cell_of h.hg, List.getElem?_toArray, Nat.zero_add]
  exact hcur j hj

/-- The buffer's bytes, as a piece of the text. -/
def piece (zs : List Int) (base bl : Nat) : List Int := (zs.drop base).take bl
theorem piece_length (zs : List Int) (base bl : Nat) (h : base + bl ≤ zs.length) : (piece zs base bl).length = bl := by simp [piece]; omega
theorem piece_get (zs : List Int) (base bl j : Nat) (hj : j < bl) : (piece zs base bl).getD j 0 = zs.getD (base + j) 0 := by
  simp [piece, List.getD, hj, List.getElem?_drop]
theorem piece_in (zs : List Int) (base bl off : Nat) (h : base + bl ≤ zs.length) (ho : off ≤ bl) (hlt : Pl.nns (piece zs base bl) off < bl) : Pl.nns zs (base + off) = base + Pl.nns (piece zs base bl) off := by
  have hl := piece_length zs base bl h
  have hge := Pl.nns_ge (piece zs base bl) off
  refine Pl.nns_eq zs _ _ (by omega) (by omega) (fun j h1 h2 => ?_) (fun _ => ?_)
  · have := Pl.white (piece zs base bl) off (j - base) (by omega) (by omega)
    rw [piece_get zs base bl _ (by omega)] at this
    rwa [show base + (j - base) = j by omega] at this
  · have := Pl.black (piece zs base bl) off (by omega)
    rwa [piece_get zs base bl _ hlt] at this
theorem piece_out (zs : List Int) (base bl off : Nat) (h : base + bl ≤ zs.length) (ho : off ≤ bl) (he : Pl.nns (piece zs base bl) off = bl) : Pl.nns zs (base + bl) = Pl.nns zs (base + off) := by
  have hl := piece_length zs base bl h
  refine Pl.nns_between zs _ _ (by omega) ?_
  rcases Nat.lt_or_ge (Pl.nns zs (base + off)) (base + bl) with hlt | hge
  · have hge := Pl.nns_ge zs (base + off)
    have hb := Pl.black zs (base + off) (by omega)
    have hw := Pl.white (piece zs base bl) off (Pl.nns zs (base + off) - base) (by omega) (by omega)
    rw [piece_get zs base bl _ (by omega), show base + (Pl.nns zs (base + off) - base) = Pl.nns zs (base + off) by omega, hb] at hw
    cases hw
  · exact hge
end Go.Proofs.Qxb6614003aFmt
