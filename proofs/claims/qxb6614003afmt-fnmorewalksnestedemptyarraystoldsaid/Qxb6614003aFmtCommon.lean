/-
  WHAT THE LAWS OF THIS SEAT SHARE: the callees' contracts over the Reader's state.
-/
import Derived.Test.Qxb6614003aFmtPeek
namespace Go.Proofs.Qxb6614003aFmt
open Go.RowKit
set_option linter.unusedVariables false

/-- A SLICE OF BYTES THAT CAME IN: nil, or a row; zs are its elements. -/
def In (w : World) (a : Option Addr) (len cap : Nat) (zs : List Int) : Prop :=
  (a = none ∧ len = 0 ∧ cap = 0 ∧ zs = []) ∨ ∃ x, a = some x ∧ len = zs.length ∧ ∀ j, j < zs.length → w.cell? (x.add j) = some (.int .u8 (zs.getD j 0))
theorem In.len {w : World} {a : Option Addr} {len cap : Nat} {zs : List Int} (h : In w a len cap zs) : len = zs.length := by
  rcases h with ⟨_, h, _, h'⟩ | ⟨_, _, h, _⟩
  · rw [h, h']; rfl
  · exact h
theorem add_block (a : Addr) (j : Nat) : (a.add j).block = a.block := by unfold Addr.add; split <;> rfl
theorem In.below {w w' : World} {a : Option Addr} {len cap : Nat} {zs : List Int} (h : In w a len cap zs) (hb : Below w.heap.size w w') : In w' a len cap zs := by
  rcases h with h | ⟨x, h1, h2, h3⟩
  · exact .inl h
  · refine .inr ⟨x, h1, h2, fun j hj => ?_⟩
    have := h3 j hj
    rw [hb.cell (lt_of_cell this)]
    exact this

theorem Text.slice {w : World} {d : Nat} {dv : Value} {zs : List Int} (h : Text w d dv zs) : ∃ a, dv = .slice a zs.length zs.length ∧ (a = none → zs = []) ∧ (∀ b, a = some b → b = ⟨d, 0, none⟩) ∧
    (∀ b, a = some b → ∀ j, j < zs.length → w.cell? (b.add j) = some (.int .u8 (zs.getD j 0))) := by
  rcases h with ⟨h, h'⟩ | ⟨h, h'⟩
  · subst h'
    exact ⟨none, h, fun _ => rfl, fun b hb => (by cases hb), fun b hb => (by cases hb)⟩
  · refine ⟨some ⟨d, 0, none⟩, h, fun e => (by cases e), fun b hb => (by cases hb; rfl), fun b hb j hj => ?_⟩
    cases hb
    rw [add_none, cell_of h', List.getElem?_toArray, Nat.zero_add, U_get zs j hj]

/-- jpClone, both ways. -/
theorem clone_any (a : Option Addr) (len cap : Nat) (zs : List Int) (w : World) (hin : In w a len cap zs) (hl : len ≤ 1000000000) (h0 : 0 < w.heap.size) :
    Calls Tryf.prog 10 #[.slice a len cap] w fun e w' => ∃ (d : Nat) (dv : Value), e = .returned dv ∧ Text w' d dv zs ∧ d < w'.heap.size ∧ Below w.heap.size w w' := by
  rcases hin with ⟨rfl, rfl, rfl, rfl⟩ | ⟨x, rfl, rfl, hc⟩
  · refine (clone_nil w).mono ?_
    rintro e w' ⟨rfl, rfl⟩
    exact ⟨0, _, rfl, .inl ⟨rfl, rfl⟩, h0, Below.refl _ _⟩
  · refine (clone_some x cap zs w hl hc).mono ?_
    rintro e w' ⟨rfl, rfl⟩
    have hh := setRow_heap (w.alloc (.cells (madeCells #[.int .u8 0] zs.length) 5)) w.heap.size _ (U zs).toArray 5 _ (heap_new w _)
    refine ⟨w.heap.size, _, rfl, .inr ⟨rfl, hh⟩, lt_of_heap hh, ?_⟩
    exact below_setRow ((Below.refl _ w).alloc (Nat.le_refl _) _) (Nat.le_refl _) _

theorem glob_up {x0 x1 : Addr} {w w' : World} (h : Glob (fun k => k < w.heap.size) x0 x1 w) (hb : Below w.heap.size w w') : Glob (fun k => k < w'.heap.size) x0 x1 w' :=
  (h.keep (Keep.of_below hb (fun _ h => h))).other (Nat.lt_of_lt_of_le h.l0 hb.size) (Nat.lt_of_lt_of_le h.l1 hb.size) (Nat.lt_of_lt_of_le h.b0 hb.size) (Nat.lt_of_lt_of_le h.b1 hb.size) (fun _ h => h)

/-- A READER AS IT IS MADE: it has read nothing. -/
structure Fresh (p q : Nat) (dv : Value) (w : World) : Prop where
  hp : w.heap[p]? = some (.cells (rdCells q (.slice none 0 0) 0 0 0 false) 49 (0, 0))
  hq : w.heap[q]? = some (.cells #[dv, .int .i64 0, .int .i64 (-1)] 57 (0, 0))
theorem Fresh.of_blocks {p q : Nat} {dv : Value} {w w' : World} (h : Fresh p q dv w) (h1 : w'.heap[p]? = w.heap[p]?) (h2 : w'.heap[q]? = w.heap[q]?) : Fresh p q dv w' := ⟨by rw [h1]; exact h.hp, by rw [h2]; exact h.hq⟩
theorem Fresh.rd {L : Nat → Prop} {p q d : Nat} {dv : Value} {zs : List Int} {x0 x1 : Addr} {w : World} (h : Fresh p q dv w) (hG : Glob L x0 x1 w) (ht : Text w d dv zs) (hp : ¬ L p) (hq : ¬ L q) (hd : L d) (hpq : p ≠ q) (hl : zs.length ≤ 100000000) : Rd L p q d dv zs x0 x1 0 0 w :=
  ⟨none, 0, 0, 0, 0, 0, -1, false, ⟨hG, hp, hq, hd, hpq, h.hp, h.hq, ht, .inl ⟨rfl, rfl, rfl⟩, fun b hb => (by cases hb), Nat.zero_le _, rfl, Nat.le_refl _, fun h => (by cases h), hl⟩, rfl⟩

/-- ZZnewReader over a text. -/
theorem newReader_fresh (d : Nat) (dv : Value) (zs : List Int) (w : World) (ht : Text w d dv zs) :
    Calls Tryf.prog 12 #[dv] w fun e w' => e = .returned (.pointer (some ⟨w.heap.size + 1, 0, none⟩)) ∧ Below w.heap.size w w' ∧ w'.heap.size = w.heap.size + 2 ∧ Fresh (w.heap.size + 1) w.heap.size dv w' := by
  obtain ⟨a, rfl, _, _, _⟩ := ht.slice
  refine (newReader_any _ a zs.length zs.length rfl w).mono ?_
  rintro e w' ⟨rfl, rfl⟩
  have hb : Below w.heap.size w ((w.alloc (.cells #[.slice a zs.length zs.length, .int .i64 0, .int .i64 (-1)] 57)).alloc (.cells #[.iface 44 (.pointer (some ⟨w.heap.size, 0, none⟩)), .slice none 0 0, .int .i64 0, .int .i64 0, .int .i64 0, .bool false, .nilIface] 49)) :=
    ((Below.refl _ w).alloc (Nat.le_refl _) _).alloc (by simp) _
  have hs1 : (w.alloc (.cells #[.slice a zs.length zs.length, .int .i64 0, .int .i64 (-1)] 57)).heap.size = w.heap.size + 1 := by simp
  have hp := heap_new (w.alloc (.cells #[.slice a zs.length zs.length, .int .i64 0, .int .i64 (-1)] 57)) (.cells #[.iface 44 (.pointer (some ⟨w.heap.size, 0, none⟩)), .slice none 0 0, .int .i64 0, .int .i64 0, .int .i64 0, .bool false, .nilIface] 49)
  rw [hs1] at hp
  have hq := (Below.heap_alloc (w.alloc (.cells #[.slice a zs.length zs.length, .int .i64 0, .int .i64 (-1)] 57)) (.cells #[.iface 44 (.pointer (some ⟨w.heap.size, 0, none⟩)), .slice none 0 0, .int .i64 0, .int .i64 0, .int .i64 0, .bool false, .nilIface] 49) w.heap.size (by rw [hs1]; omega)).trans (heap_new w _)
  exact ⟨rfl, hb, by simp, hp, hq⟩

/-- A new Reader over a text: it stands at 0; whatever was there is kept. -/
theorem newReader_rd (d : Nat) (dv : Value) (zs : List Int) (x0 x1 : Addr) (w : World) (hG : Glob (fun k => k < w.heap.size) x0 x1 w) (ht : Text w d dv zs) (hd : d < w.heap.size) (hl : zs.length ≤ 100000000) :
    Calls Tryf.prog 12 #[dv] w fun e w' => e = .returned (.pointer (some ⟨w.heap.size + 1, 0, none⟩)) ∧ Below w.heap.size w w' ∧ Rd (fun k => k < w.heap.size) (w.heap.size + 1) w.heap.size d dv zs x0 x1 0 0 w' := by
  refine (newReader_fresh d dv zs w ht).mono ?_
  rintro e w' ⟨rfl, h1, _, h3⟩
  exact ⟨rfl, h1, h3.rd (hG.keep (Keep.of_below h1 (fun _ h => h))) (ht.of_block (h1.block d hd)) (by omega) (by omega) hd (by omega) hl⟩

section
variable {L : Nat → Prop} {p q d : Nat} {dv : Value} {zs : List Int} {x0 x1 : Addr} {dep : Int} {pos : Nat} {w : World}

theorem Rd.still {w' : World} (h : Rd L p q d dv zs x0 x1 dep pos w) (hs : Still w w') : Rd L p q d dv zs x0 x1 dep pos w' := by
  obtain ⟨a, bl, C, base, off, i, pr, eof, h, e⟩ := h
  exact ⟨a, bl, C, base, off, i, pr, eof, h.still hs, e⟩
theorem Rd.glob (h : Rd L p q d dv zs x0 x1 dep pos w) : Glob L x0 x1 w := by
  obtain ⟨a, bl, C, base, off, i, pr, eof, h, e⟩ := h
  exact h.glob
theorem Rd.text (h : Rd L p q d dv zs x0 x1 dep pos w) : Text w d dv zs := by
  obtain ⟨a, bl, C, base, off, i, pr, eof, h, e⟩ := h
  exact h.hd
theorem Rd.pos_le (h : Rd L p q d dv zs x0 x1 dep pos w) : pos ≤ zs.length := by
  obtain ⟨a, bl, C, base, off, i, pr, eof, h, e⟩ := h
  have := h.ho; have := h.hb; have := h.hi
  omega
/-- What jpPos and ZZdepth read. -/
theorem Rd.cells (h : Rd L p q d dv zs x0 x1 dep pos w) : ∃ b o : Nat, w.cell? ⟨p, 3, none⟩ = some (.int .i64 b) ∧ w.cell? ⟨p, 2, none⟩ = some (.int .i64 o) ∧ w.cell? ⟨p, 4, none⟩ = some (.int .i64 dep) ∧ b + o ≤ 1000000000 ∧ pos = b + o := by
  obtain ⟨a, bl, C, base, off, i, pr, eof, h, e⟩ := h
  refine ⟨base, off, cell_of h.hp 3, cell_of h.hp 2, cell_of h.hp 4, ?_, e⟩
  have := h.ho; have := h.hb; have := h.hi; have := h.hl
  omega
theorem pos_rd (h : Rd L p q d dv zs x0 x1 dep pos w) : Calls Tryf.prog 14 #[.pointer (some ⟨p, 0, none⟩)] w fun e w' => e = .returned (.int .i64 pos) ∧ w' = w := by
  obtain ⟨b, o, h1, h2, h3, h4, rfl⟩ := h.cells
  refine (pos_any p b o w h1 h2 h4).mono ?_
  rintro e w' ⟨rfl, rfl⟩
  exact ⟨ret_int (by omega), rfl⟩
theorem depth_rd (h : Rd L p q d dv zs x0 x1 dep pos w) : Calls Tryf.prog 15 #[.pointer (some ⟨p, 0, none⟩)] w fun e w' => e = .returned (.int .i64 dep) ∧ w' = w := by
  obtain ⟨b, o, h1, h2, h3, h4, rfl⟩ := h.cells
  exact depth_any p dep w h3
theorem peek_lt (h : Rd L p q d dv zs x0 x1 dep pos w) (k : Nat) (z : Int) (hk : Pl.nns zs pos = k) (hlt : k < zs.length) (hz : zs.getD k 0 = z) :
    Calls Tryf.prog 13 #[.pointer (some ⟨p, 0, none⟩)] w fun e w' => e = .returned (.tuple #[.int .u8 z, .nilIface]) ∧ Rd L p q d dv zs x0 x1 dep k w' ∧ Keep L w w' := by
  refine (peek_any L p q d dv zs x0 x1 dep pos w h).mono ?_
  rintro e w' ⟨rfl, h1, h2⟩
  rw [hk] at h1 ⊢
  exact ⟨peekV_lt zs x0 k z hlt hz, h1.rd, h2⟩
theorem peek_in (h : Rd L p q d dv zs x0 x1 dep pos w) (k : Nat) (z : Int) (hk : Pl.nns zs pos = k) (hlt : k < zs.length) (hz : zs.getD k 0 = z) :
    Calls Tryf.prog 13 #[.pointer (some ⟨p, 0, none⟩)] w fun e w' => e = .returned (.tuple #[.int .u8 z, .nilIface]) ∧ RdB L p q d dv zs x0 x1 dep k w' ∧ Keep L w w' := by
  refine (peek_any L p q d dv zs x0 x1 dep pos w h).mono ?_
  rintro e w' ⟨rfl, h1, h2⟩
  rw [hk] at h1 ⊢
  exact ⟨peekV_lt zs x0 k z hlt hz, h1, h2⟩
theorem peek_end (h : Rd L p q d dv zs x0 x1 dep pos w) (hk : Pl.nns zs pos = zs.length) :
    Calls Tryf.prog 13 #[.pointer (some ⟨p, 0, none⟩)] w fun e w' => e = .returned (.tuple #[.int .u8 0, .iface 81 (.pointer (some x0))]) ∧ Rd L p q d dv zs x0 x1 dep zs.length w' ∧ Keep L w w' := by
  refine (peek_any L p q d dv zs x0 x1 dep pos w h).mono ?_
  rintro e w' ⟨rfl, h1, h2⟩
  rw [hk] at h1 ⊢
  exact ⟨peekV_end zs x0 _ (Nat.le_refl _), h1.rd, h2⟩
/-- jpNextNonSpace over the Reader's text. -/
theorem next_text {i : Nat} (ht : Text w d dv zs) (hi : i ≤ zs.length) (hl : zs.length ≤ 1000000000) :
    Calls Tryf.prog 11 #[dv, .int .i64 i] w fun e w' => e = .returned (.int .i64 (Pl.nns zs i)) ∧ w' = w := by
  obtain ⟨a, rfl, h1, h2, h3⟩ := ht.slice
  exact next_any a zs.length zs i w hi hl h3 h1
end
end Go.Proofs.Qxb6614003aFmt
