/-
  FnPeekOverJoinedText: the walk.
-/
import Derived.Test.Qxb6614003aFmtCommon
import Derived.Deep.RegionWith
namespace Go.Proofs.Qxb6614003aFmt
open Go.RowKit
set_option linter.unusedVariables false

theorem bytes16_yes (a b : Option Addr) (la ca lb cb : Nat) (w : World) (h : (la : Int) + (lb : Int) ≤ 1048576) :
    Calls Tryf.prog 16 #[.slice a la ca, .slice b lb cb] w fun e w' => e = .returned (.bool true) ∧ w' = w := by
  have h1 : (la : Int) ≤ 1048576 := by omega
  have h2 : (lb : Int) ≤ 1048576 := by omega
  go_enter Tryf.func16, Tryf.ntmps16
  go_wp2
  go_ret
  exact ⟨rfl, rfl⟩
theorem bytes16_no (a b : Option Addr) (la ca lb cb : Nat) (w : World) (h : 1048576 < (la : Int) + (lb : Int)) (h1 : la ≤ 9223372036854775807) (h2 : lb ≤ 9223372036854775807) :
    Calls Tryf.prog 16 #[.slice a la ca, .slice b lb cb] w fun e w' => e = .returned (.bool false) ∧ w' = w := by
  by_cases ha : (la : Int) ≤ 1048576
  · by_cases hb : (lb : Int) ≤ 1048576
    · go_enter Tryf.func16, Tryf.ntmps16
      go_wp2
      go_ret
      exact ⟨rfl, rfl⟩
    · go_enter Tryf.func16, Tryf.ntmps16
      go_wp2
      go_ret
      exact ⟨rfl, rfl⟩
  · go_enter Tryf.func16, Tryf.ntmps16
    go_wp2
    go_ret
    exact ⟨rfl, rfl⟩

/-- 'copy' of a whole text into a row of the call's own, from place off on. -/
theorem copy_text {w : World} {d g off : Nat} {a : Option Addr} {n : Nat} {zs : List Int} {cur : List Value} {dp : Option Addr} {dl dc : Nat} (hn : zs.length = n) (ht : Text w d (.slice a n n) zs) (hg : w.heap[g]? = some (.cells cur.toArray 5 (0, 0)))
    (hfit : off + n ≤ cur.length) (hdl : n ≤ dl) (hdp : 0 < n → dp = some ⟨g, off, none⟩) :
    ∃ w', (∀ ty, (Builtin.copy_ #[22, 22] ty #[.slice dp dl dc, .slice a n n]).run Tryf.prog w = .ok (goInt n) w') ∧ w'.heap[g]? = some (.cells (splice cur off (U zs)).toArray 5 (0, 0)) ∧ Only (fun b => b = g) w w' := by
  subst hn
  by_cases h0 : zs.length = 0
  · have hz : zs = [] := List.eq_nil_of_length_eq_zero h0
    subst hz
    refine ⟨w, fun ty => ?_, by simpa [splice, U] using hg, Only.refl _ _⟩
    exact run_copy_none (P := Tryf.prog) w 22 22 ty 5 dp a dl dc 0 0 Tryf.underlying22 Tryf.size5 (by simp)
  · obtain ⟨a', e, h1, h2, h3⟩ := ht.slice
    cases e
    obtain rfl := hdp (by omega)
    cases a with
    | none => rw [h1 rfl] at h0; simp at h0
    | some x =>
      refine ⟨w.setRow g (splice cur off (U zs)).toArray, fun ty => ?_, setRow_heap w g _ _ 5 _ hg, Only.setRow (S := fun b => b = g) (Only.refl _ w) rfl _⟩
      have := run_copy_row Tryf.prog w 22 22 ty 5 g off dl dc x zs.length zs.length cur.toArray 5 (U zs) Tryf.underlying22 Tryf.size5 hg (by rw [U_length]; show _ = min _ _; omega)
        (fun j v hj => by
          have hj' : j < zs.length := by
            rcases Nat.lt_or_ge j zs.length with h1 | h1
            · exact h1
            · rw [List.getElem?_eq_none (by rw [U_length]; exact h1)] at hj; cases hj
          rw [U_get zs j hj'] at hj
          cases hj
          exact h3 x rfl j hj') (by simp [U_length]; omega) (U_one zs)
      rw [this, U_length]
      simp only [splice, U_length, List.append_assoc]
theorem splice_two (Z : List Value) (xs ys : List Int) (hZ : Z.length = xs.length + ys.length) : splice (splice Z 0 (U xs)) xs.length (U ys) = U (xs ++ ys) := by
  have hx := U_length xs
  have hy := U_length ys
  have e1 : splice Z 0 (U xs) = U xs ++ Z.drop xs.length := by simp [splice, hx]
  rw [e1, splice, List.take_append_of_le_length (by omega), List.take_of_length_le (by omega), List.drop_eq_nil_of_le (by simp; omega)]
  simp [U]

/-- Where a Reader stands, by two of its cells alone. -/
def At (p pos : Nat) (w : World) : Prop := ∃ b o : Nat, w.cell? ⟨p, 3, none⟩ = some (.int .i64 b) ∧ w.cell? ⟨p, 2, none⟩ = some (.int .i64 o) ∧ b + o ≤ 1000000000 ∧ pos = b + o
theorem At.of_block {p pos : Nat} {w w' : World} (h : At p pos w) (hb : w'.heap[p]? = w.heap[p]?) : At p pos w' := by
  obtain ⟨b, o, h1, h2, h3, h4⟩ := h
  exact ⟨b, o, by rw [World.cell?_of_block (w := w) hb]; exact h1, by rw [World.cell?_of_block (w := w) hb]; exact h2, h3, h4⟩
theorem pos_at {p pos : Nat} {w : World} (h : At p pos w) : Calls Tryf.prog 14 #[.pointer (some ⟨p, 0, none⟩)] w fun e w' => e = .returned (.int .i64 pos) ∧ w' = w := by
  obtain ⟨b, o, h1, h2, h4, rfl⟩ := h
  refine (pos_any p b o w h1 h2 h4).mono ?_
  rintro e w' ⟨rfl, rfl⟩
  exact ⟨ret_int (by omega), rfl⟩

theorem pos_int {p pos : Nat} {v : Int} {w : World} (h : At p pos w) (hv : (pos : Int) = v) : Calls Tryf.prog 14 #[.pointer (some ⟨p, 0, none⟩)] w fun e w' => e = .returned (.int .i64 v) ∧ w' = w := by
  subst hv; exact pos_at h

/-- Peek on a Reader that has read nothing, among others. -/
theorem peek_fresh {N p q d : Nat} {dv : Value} {zs : List Int} {x0 x1 : Addr} {w : World} (hF : Fresh p q dv w) (hT : Text w d dv zs) (hG : Glob (fun k => k < N) x0 x1 w) (hN : N ≤ w.heap.size) (hp : N ≤ p) (hq : N ≤ q) (hpq : p ≠ q) (hd : d < N) (hl : zs.length ≤ 100000000) :
    Calls Tryf.prog 13 #[.pointer (some ⟨p, 0, none⟩)] w fun e w' => e = .returned (peekV zs x0 (Pl.nns zs 0)) ∧ At p (Pl.nns zs 0) w' ∧ Keep (fun k => k < w.heap.size ∧ k ≠ p ∧ k ≠ q) w w' := by
  have h0 := hG.l0
  have h1 := hG.l1
  have h2 := hG.b0
  have h3 := hG.b1
  have hr := hF.rd (L := fun k => k < w.heap.size ∧ k ≠ p ∧ k ≠ q) (hG.other ⟨by omega, by omega, by omega⟩ ⟨by omega, by omega, by omega⟩ ⟨by omega, by omega, by omega⟩ ⟨by omega, by omega, by omega⟩ (fun k hk => hk.1)) hT
    (fun h => h.2.1 rfl) (fun h => h.2.2 rfl) ⟨by omega, by omega, by omega⟩ hpq hl
  refine (peek_any _ p q d dv zs x0 x1 0 0 w hr).mono ?_
  rintro e w' ⟨rfl, h4, h5⟩
  obtain ⟨b, o, c1, c2, _, c3, c4⟩ := h4.cells
  exact ⟨rfl, ⟨b, o, c1, c2, c3, c4⟩, h5⟩

/-- The three Readers, made one behind the other. -/
structure Three (N d1 d2 d3 : Nat) (v1 v2 v3 : Value) (xs ys zs : List Int) (x0 x1 : Addr) (w : World) : Prop where
  glob : Glob (fun k => k < N) x0 x1 w
  f1 : Fresh (N + 1) N v1 w
  f2 : Fresh (N + 3) (N + 2) v2 w
  f3 : Fresh (N + 5) (N + 4) v3 w
  t1 : Text w d1 v1 xs
  t2 : Text w d2 v2 ys
  t3 : Text w d3 v3 zs
  l1 : d1 < N
  l2 : d2 < N
  l3 : d3 < N
  size : w.heap.size = N + 6
theorem three_mk {N d1 d2 d3 : Nat} {v1 v2 v3 : Value} {xs ys zs : List Int} {x0 x1 : Addr} {w u1 u2 u3 : World} (hN : N = w.heap.size) (hG : Glob (fun k => k < w.heap.size) x0 x1 w) (t1 : Text w d1 v1 xs) (t2 : Text w d2 v2 ys) (t3 : Text w d3 v3 zs) (l1 : d1 < N) (l2 : d2 < N) (l3 : d3 < N)
    (b1 : Below w.heap.size w u1) (s1 : u1.heap.size = w.heap.size + 2) (f1 : Fresh (w.heap.size + 1) w.heap.size v1 u1)
    (b2 : Below u1.heap.size u1 u2) (s2 : u2.heap.size = u1.heap.size + 2) (f2 : Fresh (u1.heap.size + 1) u1.heap.size v2 u2)
    (b3 : Below u2.heap.size u2 u3) (s3 : u3.heap.size = u2.heap.size + 2) (f3 : Fresh (u2.heap.size + 1) u2.heap.size v3 u3) : Three N d1 d2 d3 v1 v2 v3 xs ys zs x0 x1 u3 := by
  subst hN
  rw [s1] at b2 s2 f2
  rw [s2] at b3 s3 f3
  have hb : Below w.heap.size w u3 := (b1.trans (b2.mono (by omega))).trans (b3.mono (by omega))
  exact ⟨hG.keep (Keep.of_below hb (fun _ h => h)), (f1.of_blocks (b2.block _ (by omega)) (b2.block _ (by omega))).of_blocks (b3.block _ (by omega)) (b3.block _ (by omega)),
    f2.of_blocks (b3.block _ (by omega)) (b3.block _ (by omega)), f3, t1.of_block (hb.block _ l1), t2.of_block (hb.block _ l2), t3.of_block (hb.block _ l3), l1, l2, l3, by omega⟩

section
variable {N d1 d2 d3 : Nat} {v1 v2 v3 : Value} {xs ys zs : List Int} {x0 x1 : Addr} {w u1 u2 u3 : World}
theorem Three.peek1 (h : Three N d1 d2 d3 v1 v2 v3 xs ys zs x0 x1 w) (hl : xs.length ≤ 100000000) :
    Calls Tryf.prog 13 #[.pointer (some ⟨N + 1, 0, none⟩)] w fun e w' => e = .returned (peekV xs x0 (Pl.nns xs 0)) ∧ At (N + 1) (Pl.nns xs 0) w' ∧ Keep (fun k => k < w.heap.size ∧ k ≠ N + 1 ∧ k ≠ N) w w' :=
  peek_fresh h.f1 h.t1 h.glob (by have := h.size; omega) (by omega) (by omega) (by omega) h.l1 hl
theorem Three.peek2 (h : Three N d1 d2 d3 v1 v2 v3 xs ys zs x0 x1 w) (hl : ys.length ≤ 100000000) (k1 : Keep (fun k => k < w.heap.size ∧ k ≠ N + 1 ∧ k ≠ N) w u1) :
    Calls Tryf.prog 13 #[.pointer (some ⟨N + 3, 0, none⟩)] u1 fun e w' => e = .returned (peekV ys x0 (Pl.nns ys 0)) ∧ At (N + 3) (Pl.nns ys 0) w' ∧ Keep (fun k => k < u1.heap.size ∧ k ≠ N + 3 ∧ k ≠ N + 2) u1 w' := by
  have hs := h.size
  have hs1 := k1.size
  have hl2 := h.l2
  exact peek_fresh (h.f2.of_blocks (k1.block _ ⟨by omega, by omega, by omega⟩) (k1.block _ ⟨by omega, by omega, by omega⟩)) (h.t2.of_block (k1.block _ ⟨by omega, by omega, by omega⟩)) (h.glob.keep (k1.mono (fun k hk => ⟨by omega, by omega, by omega⟩))) (by omega) (by omega) (by omega) (by omega) h.l2 hl
theorem Three.peek3 (h : Three N d1 d2 d3 v1 v2 v3 xs ys zs x0 x1 w) (hl : zs.length ≤ 100000000) (k1 : Keep (fun k => k < w.heap.size ∧ k ≠ N + 1 ∧ k ≠ N) w u1) (k2 : Keep (fun k => k < u1.heap.size ∧ k ≠ N + 3 ∧ k ≠ N + 2) u1 u2) :
    Calls Tryf.prog 13 #[.pointer (some ⟨N + 5, 0, none⟩)] u2 fun e w' => e = .returned (peekV zs x0 (Pl.nns zs 0)) ∧ At (N + 5) (Pl.nns zs 0) w' ∧ Keep (fun k => k < u2.heap.size ∧ k ≠ N + 5 ∧ k ≠ N + 4) u2 w' := by
  have hs := h.size
  have hs1 := k1.size
  have hs2 := k2.size
  have hl3 := h.l3
  exact peek_fresh ((h.f3.of_blocks (k1.block _ ⟨by omega, by omega, by omega⟩) (k1.block _ ⟨by omega, by omega, by omega⟩)).of_blocks (k2.block _ ⟨by omega, by omega, by omega⟩) (k2.block _ ⟨by omega, by omega, by omega⟩))
    ((h.t3.of_block (k1.block _ ⟨by omega, by omega, by omega⟩)).of_block (k2.block _ ⟨by omega, by omega, by omega⟩))
    ((h.glob.keep (k1.mono (fun k hk => ⟨by omega, by omega, by omega⟩))).keep (k2.mono (fun k hk => ⟨by omega, by omega, by omega⟩))) (by omega) (by omega) (by omega) (by omega) h.l3 hl
/-- Behind the three. -/
theorem Three.rest {i j : Nat} (h : Three N d1 d2 d3 v1 v2 v3 xs ys zs x0 x1 w) (k1 : Keep (fun k => k < w.heap.size ∧ k ≠ N + 1 ∧ k ≠ N) w u1) (k2 : Keep (fun k => k < u1.heap.size ∧ k ≠ N + 3 ∧ k ≠ N + 2) u1 u2) (k3 : Keep (fun k => k < u2.heap.size ∧ k ≠ N + 5 ∧ k ≠ N + 4) u2 u3)
    (a1 : At (N + 1) i u1) (a2 : At (N + 3) j u2) : At (N + 1) i u3 ∧ At (N + 3) j u3 ∧ Text u3 d1 v1 xs ∧ Below N w u3 := by
  have hs := h.size
  have hs1 := k1.size
  have hs2 := k2.size
  have hs3 := k3.size
  have hl1 := h.l1
  refine ⟨(a1.of_block (k2.block _ ⟨by omega, by omega, by omega⟩)).of_block (k3.block _ ⟨by omega, by omega, by omega⟩), a2.of_block (k3.block _ ⟨by omega, by omega, by omega⟩),
    ((h.t1.of_block (k1.block _ ⟨by omega, by omega, by omega⟩)).of_block (k2.block _ ⟨by omega, by omega, by omega⟩)).of_block (k3.block _ ⟨by omega, by omega, by omega⟩), ?_⟩
  exact ((k1.below (fun k hk => ⟨by omega, by omega, by omega⟩)).trans (k2.below (fun k hk => ⟨by omega, by omega, by omega⟩))).trans (k3.below (fun k hk => ⟨by omega, by omega, by omega⟩))
end

set_option maxRecDepth 100000 in
set_option maxHeartbeats 2000000 in
theorem joined_walk (a b : Option Addr) (la ca lb cb : Nat) (xs ys : List Int) (x0 x1 : Addr) (w : World) (hia : In w a la ca xs) (hib : In w b lb cb ys) (hca : la ≤ 9223372036854775807) (hcb : lb ≤ 9223372036854775807) (hG : Glob (fun k => k < w.heap.size) x0 x1 w) :
    Calls Tryf.prog 4 #[.slice a la ca, .slice b lb cb] w fun e w' => e = .returned (.bool true) ∧ Below w.heap.size w w' := by
  by_cases hbig : (la : Int) + (lb : Int) ≤ 1048576
  · have HLA := hide hia.len
    have HLB := hide hib.len
    have hx1 : (la : Int) ≤ 1048576 := by omega
    have hx2 : ¬ ((lb : Int) > 1048576 - (la : Int)) := by omega
    have HI := hide (And.intro hia hib)
    have HG := hide hG
    have HA := hide hbig
    have hxl : la ≤ 1048576 := by omega
    have hyl : lb ≤ 1048576 := by omega
    clear hia hib hG hbig
    go_enter Tryf.func4, Tryf.ntmps4
    go_wp2_with fail
    refine (bytes16_yes a b la ca lb cb w (unhide HA)).mono ?_
    rintro e w' ⟨rfl, rfl⟩
    go_wp2_with fail
    refine (clone_any a la ca xs _ (unhide HI).1 (by omega) ((unhide HG).lim 0 (unhide HG).l0)).mono ?_
    rintro e w1 ⟨d1, dv1, rfl, ht1, hd1, hb1⟩
    obtain ⟨a1, hdv, hn1, hd1', _⟩ := ht1.slice
    rw [← unhide HLA] at hdv
    subst hdv
    have HG1 := hide (glob_up (unhide HG) hb1)
    have HT1 := hide (And.intro ht1 (And.intro hd1 (And.intro hb1 (And.intro hn1 hd1'))))
    clear ht1 hd1 hb1 hd1' hn1
    go_wp2_with fail
    refine (clone_any b lb cb ys _ ((unhide HI).2.below (unhide HT1).2.2.1) (by omega) ((unhide HG1).lim 0 (unhide HG1).l0)).mono ?_
    rintro e w2 ⟨d2, dv2, rfl, ht2, hd2, hb2⟩
    obtain ⟨b1, hdv, _, hd2', _⟩ := ht2.slice
    rw [← unhide HLB] at hdv
    subst hdv
    have HG2 := hide (glob_up (unhide HG1) hb2)
    have HT2 := hide (And.intro ht2 (And.intro hd2 hb2))
    clear ht2 hd2 hb2 hd2'
    have hmk := fun wx => run_make_row' (P := Tryf.prog) 22 5 (.int .u8 0) 1 Tryf.underlying22 Tryf.info5 rfl .i64 .i64 (la + lb) (by omega) (by omega) wx
    rw [show ((la + lb : Nat) : Int) = (la : Int) + (lb : Int) by omega] at hmk
    obtain ⟨W0, hW0⟩ : ∃ W0, W0 = w2.alloc (.cells (madeCells #[.int .u8 0] (la + lb)) 5) := ⟨_, rfl⟩
    have hW0g : W0.heap[w2.heap.size]? = some (.cells (madeCells #[.int .u8 0] (la + lb)).toList.toArray 5 (0, 0)) := by rw [hW0, heap_new]
    have hW0b : Below w2.heap.size w2 W0 := by rw [hW0]; exact (Below.refl _ _).alloc (Nat.le_refl _) _
    have hW0s : W0.heap.size = w2.heap.size + 1 := by rw [hW0]; simp
    have hmk2 : (Instr.makeSlice 22 (.int .i64 ((la : Int) + (lb : Int))) (.int .i64 ((la : Int) + (lb : Int)))).run Tryf.prog w2 = .ok (.slice (some ⟨w2.heap.size, 0, none⟩) (la + lb) (la + lb)) W0 := by
      rw [hW0]; exact hmk w2
    clear hmk
    have hd1l : d1 < w2.heap.size := Nat.lt_of_lt_of_le (unhide HT1).2.1 (unhide HT2).2.2.size
    have ht1 : Text W0 d1 (.slice a1 la la) xs := ((unhide HT1).1.of_block ((unhide HT2).2.2.block d1 (unhide HT1).2.1)).of_block (hW0b.block d1 hd1l)
    have ht2 : Text W0 d2 (.slice b1 lb lb) ys := (unhide HT2).1.of_block (hW0b.block d2 (unhide HT2).2.1)
    have hml : (madeCells #[Value.int .u8 0] (la + lb)).toList.length = la + lb := by simp [size_madeCells]
    obtain ⟨W1, e1, hg1, ho1⟩ := copy_text (dp := some ⟨w2.heap.size, 0, none⟩) (dl := la + lb) (dc := la + lb) (off := 0) (unhide HLA).symm ht1 hW0g (by omega) (by omega) (fun _ => rfl)
    have HW0 := hide (And.intro hW0b (And.intro hW0s (And.intro hd1l (And.intro ht2 hml))))
    have HW1 := hide (And.intro hg1 ho1)
    clear hW0 hW0g hW0b hW0s hd1l ht1 ht2 hml hg1 ho1
    go_upto_region 11 with fail
    go_cut [] (fun wd => wd.heap[w2.heap.size]? = some (.cells (U (xs ++ ys)).toArray 5 (0, 0)) ∧ Below w2.heap.size w2 wd ∧ wd.heap.size = w2.heap.size + 1)
    case first =>
      obtain ⟨hW0b, hW0s, hd1l, ht2, hml⟩ := unhide HW0
      obtain ⟨hg1, ho1⟩ := unhide HW1
      have hsl : (splice (madeCells #[Value.int .u8 0] (la + lb)).toList 0 (U xs)).length = la + lb := by rw [length_splice _ _ _ (by rw [U_length, ← unhide HLA]; omega)]; exact hml
      have ht2' : Text W1 d2 (.slice b1 lb lb) ys := ht2.of_block (ho1.block d2 (fun e => by have := (unhide HT2).2.1; omega))
      have hfin : splice (splice (madeCells #[Value.int .u8 0] (la + lb)).toList 0 (U xs)) la (U ys) = U (xs ++ ys) := by
        have := splice_two (madeCells #[Value.int .u8 0] (la + lb)).toList xs ys (by rw [hml, unhide HLA, unhide HLB])
        rwa [← unhide HLA] at this
      have hbl : ∀ {W2 : World}, Only (fun b => b = w2.heap.size) W1 W2 → Below w2.heap.size w2 W2 ∧ W2.heap.size = w2.heap.size + 1 := fun ho2 =>
        ⟨hW0b.trans ((ho1.trans ho2).below (fun k hk => by have : k = w2.heap.size := hk; omega)), by rw [ho2.size, ho1.size, hW0s]⟩
      by_cases hlb : lb = 0
      · obtain ⟨W2, e2, hg2, ho2⟩ := copy_text (dp := some ⟨w2.heap.size, 0, none⟩) (dl := 0) (dc := 0) (off := la) (unhide HLB).symm ht2' hg1 (by rw [hsl]; omega) (by omega) (fun h => by omega)
        have HF := hide (And.intro hg2 (And.intro ho2 (And.intro hfin (hbl ho2))))
        clear hW0b hW0s hd1l ht2 hml hg1 ho1 hsl ht2' hfin hbl hg2 ho2
        subst hlb
        go_wp2
        go_meet
        obtain ⟨h1, h2, h3, h4, h5⟩ := unhide HF
        exact ⟨by rw [h1, h3], h4, h5⟩
      · obtain ⟨W2, e2, hg2, ho2⟩ := copy_text (dp := some ⟨w2.heap.size, la, none⟩) (dl := lb) (dc := lb) (off := la) (unhide HLB).symm ht2' hg1 (by rw [hsl]; omega) (by omega) (fun h => rfl)
        have HF := hide (And.intro hg2 (And.intro ho2 (And.intro hfin (hbl ho2))))
        clear hW0b hW0s hd1l ht2 hml hg1 ho1 hsl ht2' hfin hbl hg2 ho2
        go_wp2
        go_meet
        obtain ⟨h1, h2, h3, h4, h5⟩ := unhide HF
        exact ⟨by rw [h1, h3], h4, h5⟩
    case rest =>
      clear e1 hmk2
      obtain ⟨hg, hbw, hsz⟩ := hcut
      have hd1l : d1 < w2.heap.size := Nat.lt_of_lt_of_le (unhide HT1).2.1 (unhide HT2).2.2.size
      have hzl : (xs ++ ys).length = la + lb := by rw [List.length_append, unhide HLA, unhide HLB]
      have t1 : Text wc d1 (.slice a1 la la) xs := ((unhide HT1).1.of_block ((unhide HT2).2.2.block d1 (unhide HT1).2.1)).of_block (hbw.block d1 hd1l)
      have t2 : Text wc d2 (.slice b1 lb lb) ys := (unhide HT2).1.of_block (hbw.block d2 (unhide HT2).2.1)
      have t3 : Text wc w2.heap.size (.slice (some ⟨w2.heap.size, 0, none⟩) (la + lb) (la + lb)) (xs ++ ys) := .inr ⟨by rw [hzl], hg⟩
      have hGc := glob_up (unhide HG2) hbw
      have hbW : Below w'.heap.size w' wc := ((unhide HT1).2.2.1.trans ((unhide HT2).2.2.mono (unhide HT1).2.2.1.size)).trans (hbw.mono (Nat.le_trans (unhide HT1).2.2.1.size (unhide HT2).2.2.size))
      have HC := hide (And.intro t1 (And.intro t2 (And.intro t3 (And.intro hGc (And.intro hbW (And.intro hd1l (And.intro (unhide HT2).2.1 hsz)))))))
      have HN1 := hide (unhide HT1).2.2.2
      clear hg hbw hsz hd1l t1 t2 t3 hGc hbW HW0 HW1 HT1 HT2 HG HG1 HG2 HI
      have HZ := hide hzl
      clear hzl
      go_wp2_with fail
      refine (next_text (i := 0) (unhide HC).1 (Nat.zero_le _) (by have := unhide HLA; omega)).mono ?_
      rintro e wc ⟨rfl, rfl⟩
      go_wp2_with fail
      refine (newReader_fresh d1 _ xs _ (unhide HC).1).mono ?_
      rintro e u1 ⟨rfl, b1, s1, f1⟩
      have H1 := hide (And.intro b1 (And.intro s1 f1))
      clear b1 s1 f1
      go_wp2_with fail
      refine (newReader_fresh d2 _ ys _ ((unhide HC).2.1.of_block ((unhide H1).1.block d2 (by have := (unhide HC).2.2.2.2.2.2; omega)))).mono ?_
      rintro e u2 ⟨rfl, b2, s2, f2⟩
      have H2 := hide (And.intro b2 (And.intro s2 f2))
      clear b2 s2 f2
      go_wp2_with fail
      refine (newReader_fresh w2.heap.size _ (xs ++ ys) _ (((unhide HC).2.2.1.of_block ((unhide H1).1.block _ (by have := (unhide HC).2.2.2.2.2.2; omega))).of_block ((unhide H2).1.block _ (by have := (unhide HC).2.2.2.2.2.2; have := (unhide H1).2.1; omega)))).mono ?_
      rintro e u3 ⟨rfl, b3, s3, f3⟩
      obtain ⟨t1, t2, t3, hGc, hbW, l1, l2, hsz⟩ := unhide HC
      obtain ⟨c1, c2, c3⟩ := unhide H1
      obtain ⟨c4, c5, c6⟩ := unhide H2
      have h3 := three_mk rfl hGc t1 t2 t3 (by omega) (by omega) (by omega) c1 c2 c3 c4 c5 c6 b3 s3 f3
      have hb0 : Below w'.heap.size w' u3 := ((hbW.trans (c1.mono hbW.size)).trans (c4.mono (by have := hbW.size; omega))).trans (b3.mono (by have := hbW.size; omega))
      have hws : w'.heap.size ≤ wc.heap.size := hbW.size
      rw [show u2.heap.size + 1 = wc.heap.size + 5 by omega, show u1.heap.size + 1 = wc.heap.size + 3 by omega]
      clear t1 t2 t3 hGc hbW l1 l2 hsz c1 c2 c3 c4 c5 c6 b3 s3 f3 HC H1 H2
      generalize wc.heap.size = N at h3 hws ⊢
      have H3 := hide h3
      have HB0 := hide hb0
      have HWS := hide hws
      clear h3 hb0 hws
      have hxl' : xs.length ≤ 100000000 := by have := unhide HLA; omega
      have hyl' : ys.length ≤ 100000000 := by have := unhide HLB; omega
      have hzl' : (xs ++ ys).length ≤ 100000000 := by have := unhide HZ; omega
      have HL := hide (And.intro hxl' (And.intro hyl' hzl'))
      clear hxl' hyl' hzl'
      by_cases hlt : Pl.nns xs 0 < xs.length
      · obtain ⟨k, hk⟩ : ∃ k, k = Pl.nns xs 0 := ⟨_, rfl⟩
        obtain ⟨z, hz⟩ : ∃ z, z = xs.getD k 0 := ⟨_, rfl⟩
        have hab : Pl.nns (xs ++ ys) 0 = k := by rw [hk]; exact Pl.nns_append_in xs ys hlt
        have hzab : (xs ++ ys).getD k 0 = z := by rw [hz]; exact Pl.getD_append_left xs ys k (by omega)
        rw [← hk] at hlt ⊢
        have ha1 : a1 = some ⟨d1, 0, none⟩ := by
          obtain ⟨h1, h2⟩ := unhide HN1
          cases a1 with
          | none => rw [h1 rfl] at hlt; simp at hlt
          | some b => rw [h2 b rfl]
        subst ha1
        have hkla : k < la := by rw [unhide HLA]; exact hlt
        have hkab : k < (xs ++ ys).length := by rw [List.length_append]; omega
        have HK := hide (And.intro hk (And.intro hz (And.intro hab (And.intro hzab (And.intro hlt hkab)))))
        clear hk hz hab hzab hlt hkab
        go_wp2_with fail
        refine ((unhide H3).peek1 (unhide HL).1).mono ?_
        rintro e v1 ⟨he, at1, k1⟩
        rw [← (unhide HK).1] at he at1
        rw [peekV_lt xs x0 k z (unhide HK).2.2.2.2.1 (unhide HK).2.1.symm] at he
        subst he
        have HP1 := hide (And.intro at1 k1)
        clear at1 k1
        go_wp2_with fail
        obtain ⟨yb, yv, hyv⟩ : ∃ yb yv, peekV ys x0 (Pl.nns ys 0) = .tuple #[.int .u8 yb, yv] := by
          unfold peekV; split <;> exact ⟨_, _, rfl⟩
        refine ((unhide H3).peek2 (unhide HL).2.1 (unhide HP1).2).mono ?_
        rintro e v2 ⟨he, at2, k2⟩
        rw [hyv] at he
        subst he
        have HP2 := hide (And.intro at2 k2)
        clear at2 k2 hyv
        go_wp2_with fail
        refine ((unhide H3).peek3 (unhide HL).2.2 (unhide HP1).2 (unhide HP2).2).mono ?_
        rintro e v3 ⟨he, at3, k3⟩
        rw [(unhide HK).2.2.1] at he at3
        rw [peekV_lt (xs ++ ys) x0 k z (unhide HK).2.2.2.2.2 (unhide HK).2.2.2.1] at he
        subst he
        obtain ⟨at1, at2, htx, hb⟩ := (unhide H3).rest (unhide HP1).2 (unhide HP2).2 k3 (unhide HP1).1 (unhide HP2).1
        have hcell : v3.cell? ⟨d1, k, none⟩ = some (.int .u8 z) := by
          obtain ⟨a2, e2, _, _, h3⟩ := htx.slice
          cases e2
          have := h3 _ rfl k (unhide HK).2.2.2.2.1
          rw [add_none, Nat.zero_add] at this
          rw [this, (unhide HK).2.1]
        have HP3 := hide (And.intro at1 (And.intro at3 (And.intro htx hb)))
        clear at1 at2 at3 htx hb k3
        go_wp2_with fail
        refine (pos_at (unhide HP3).1).mono ?_
        rintro e v3 ⟨rfl, rfl⟩
        go_wp2_with fail
        refine (pos_at (unhide HP3).2.1).mono ?_
        rintro e v3 ⟨rfl, rfl⟩
        go_wp2_with fail
        refine (pos_at (unhide HP3).1).mono ?_
        rintro e v3 ⟨rfl, rfl⟩
        go_wp2_with fail
        go_ret
        exact ⟨rfl, (unhide HB0).trans ((unhide HP3).2.2.2.mono (unhide HWS))⟩
      · have hend : Pl.nns xs 0 = xs.length := by have := Pl.nns_le xs 0 (Nat.zero_le _); omega
        have hab : Pl.nns (xs ++ ys) 0 = xs.length + Pl.nns ys 0 := Pl.nns_append_past xs ys hend
        have hnl : Pl.nns xs 0 = la := by rw [hend, unhide HLA]
        rw [hnl]
        have HE := hide (And.intro hend (And.intro hab hnl))
        clear hend hab hnl hlt
        go_wp2_with fail
        refine ((unhide H3).peek1 (unhide HL).1).mono ?_
        rintro e v1 ⟨he, at1, k1⟩
        rw [peekV_end xs x0 _ (by rw [(unhide HE).1]; exact Nat.le_refl _)] at he
        rw [(unhide HE).2.2] at at1
        subst he
        have HP1 := hide (And.intro at1 k1)
        clear at1 k1
        go_wp2_with fail
        by_cases hy : Pl.nns ys 0 < ys.length
        · obtain ⟨k, hk⟩ : ∃ k, k = Pl.nns ys 0 := ⟨_, rfl⟩
          obtain ⟨z, hz⟩ : ∃ z, z = ys.getD k 0 := ⟨_, rfl⟩
          have hzab : (xs ++ ys).getD (la + k) 0 = z := by rw [hz, unhide HLA]; exact Pl.getD_append_right xs ys k
          have hkab : la + k < (xs ++ ys).length := by rw [List.length_append]; have := unhide HLA; omega
          rw [← hk] at hy
          have HK := hide (And.intro hk (And.intro hz (And.intro hzab (And.intro hy hkab))))
          clear hk hz hzab hkab hy
          refine ((unhide H3).peek2 (unhide HL).2.1 (unhide HP1).2).mono ?_
          rintro e v2 ⟨he, at2, k2⟩
          rw [← (unhide HK).1] at he at2
          rw [peekV_lt ys x0 k z (unhide HK).2.2.2.1 (unhide HK).2.1.symm] at he
          subst he
          have HP2 := hide (And.intro at2 k2)
          clear at2 k2
          go_wp2_with fail
          refine ((unhide H3).peek3 (unhide HL).2.2 (unhide HP1).2 (unhide HP2).2).mono ?_
          rintro e v3 ⟨he, at3, k3⟩
          rw [(unhide HE).2.1, ← unhide HLA, ← (unhide HK).1] at he at3
          rw [peekV_lt (xs ++ ys) x0 (la + k) z (unhide HK).2.2.2.2 (unhide HK).2.2.1] at he
          subst he
          obtain ⟨at1, at2, htx, hb⟩ := (unhide H3).rest (unhide HP1).2 (unhide HP2).2 k3 (unhide HP1).1 (unhide HP2).1
          have HP3 := hide (And.intro at1 (And.intro at2 (And.intro at3 hb)))
          have hkb : k ≤ 100000000 := by have := (unhide HK).2.2.2.1; have := (unhide HL).2.1; omega
          clear at1 at2 at3 htx hb k3
          go_wp2_with fail
          go_quiet ((go_at_call 14; first
            | exact Calls.quiet_of_same (pos_int (v := (la : Int)) (At.of_block (unhide HP3).1 rfl) rfl)
            | exact Calls.quiet_of_same (pos_int (v := (k : Int)) (At.of_block (unhide HP3).2.1 rfl) rfl)
            | exact Calls.quiet_of_same (pos_int (v := (la : Int) + (k : Int)) (At.of_block (unhide HP3).2.2.1 rfl) (by omega))))
          go_wp2
          go_ret
          exact ⟨rfl, ((unhide HB0).trans ((unhide HP3).2.2.2.mono (unhide HWS))).trans (Still.drewN (Still.refl _) _).below⟩
        · have hye : Pl.nns ys 0 = ys.length := by have := Pl.nns_le ys 0 (Nat.zero_le _); omega
          have hyl2 : Pl.nns ys 0 = lb := by rw [hye, unhide HLB]
          have HK := hide (And.intro hye hyl2)
          clear hye hyl2 hy
          refine ((unhide H3).peek2 (unhide HL).2.1 (unhide HP1).2).mono ?_
          rintro e v2 ⟨he, at2, k2⟩
          rw [peekV_end ys x0 _ (by rw [(unhide HK).1]; exact Nat.le_refl _)] at he
          rw [(unhide HK).2] at at2
          subst he
          have HP2 := hide (And.intro at2 k2)
          clear at2 k2
          go_wp2_with fail
          refine ((unhide H3).peek3 (unhide HL).2.2 (unhide HP1).2 (unhide HP2).2).mono ?_
          rintro e v3 ⟨he, at3, k3⟩
          rw [(unhide HE).2.1, ← unhide HLA, (unhide HK).2] at he at3
          rw [peekV_end (xs ++ ys) x0 _ (by rw [unhide HZ]; exact Nat.le_refl _)] at he
          subst he
          obtain ⟨at1, at2, htx, hb⟩ := (unhide H3).rest (unhide HP1).2 (unhide HP2).2 k3 (unhide HP1).1 (unhide HP2).1
          have HP3 := hide (And.intro at1 (And.intro at2 (And.intro at3 hb)))
          clear at1 at2 at3 htx hb k3
          go_wp2_with fail
          go_quiet ((go_at_call 14; first
            | exact Calls.quiet_of_same (pos_int (v := (la : Int)) (At.of_block (unhide HP3).1 rfl) rfl)
            | exact Calls.quiet_of_same (pos_int (v := (lb : Int)) (At.of_block (unhide HP3).2.1 rfl) rfl)
            | exact Calls.quiet_of_same (pos_int (v := (la : Int) + (lb : Int)) (At.of_block (unhide HP3).2.2.1 rfl) (by omega))))
          go_wp2
          go_ret
          exact ⟨rfl, ((unhide HB0).trans ((unhide HP3).2.2.2.mono (unhide HWS))).trans (Still.drewN (Still.refl _) _).below⟩
  · have HX := hide (bytes16_no a b la ca lb cb w (by omega) hca hcb)
    clear hia hib hG
    go_enter Tryf.func4, Tryf.ntmps4
    go_wp2_with fail
    refine (unhide HX).mono ?_
    rintro e w' ⟨rfl, rfl⟩
    go_wp2_with fail
    go_ret
    exact ⟨rfl, Below.refl _ _⟩
end Go.Proofs.Qxb6614003aFmt
