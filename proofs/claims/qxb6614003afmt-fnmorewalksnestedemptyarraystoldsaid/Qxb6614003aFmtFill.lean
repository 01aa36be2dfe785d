/-
  (*Reader).fill.
-/
import Derived.Test.Qxb6614003aFmtJoint
import Derived.Deep.DeepCutAuto
namespace Go.Proofs.Qxb6614003aFmt
open Go.RowKit
set_option linter.unusedVariables false

set_option maxRecDepth 100000 in
set_option maxHeartbeats 400000 in
/-- The stream has ended. -/
theorem fill_eof (p : Nat) (x0 : Addr) (w : World) (h6 : w.cell? ⟨p, 6, none⟩ = some .nilIface) (h5 : w.cell? ⟨p, 5, none⟩ = some (.bool true)) (hg0 : w.cell? ⟨0, 0, none⟩ = some (.iface 81 (.pointer (some x0)))) :
    Calls Tryf.prog 29 #[.pointer (some ⟨p, 0, none⟩)] w fun e w' => e = .returned (.iface 81 (.pointer (some x0))) ∧ w' = w := by
  go_enter Tryf.func29, Tryf.ntmps29
  go_wp2
  go_ret
  exact ⟨rfl, rfl⟩

/-- The Reader's block. -/
def rdCells (q : Nat) (bv : Value) (off base dep : Int) (eof : Bool) : Array Value :=
  #[.iface 44 (.pointer (some ⟨q, 0, none⟩)), bv, .int .i64 off, .int .i64 base, .int .i64 dep, .bool eof, .nilIface]

/-- The Reader's buffer: nil, or a row of its own. -/
def Room (L : Nat → Prop) (w : World) (p q d : Nat) (a : Option Addr) (bl C : Nat) : Prop :=
  (a = none ∧ bl = 0 ∧ C = 0) ∨ ∃ (g : Nat) (cur : List Value), a = some ⟨g, 0, none⟩ ∧ w.heap[g]? = some (.cells cur.toArray 5 (0, 0)) ∧ 32768 ≤ C ∧ C ≤ cur.length ∧ C ≤ 9223372036854775807 ∧ bl ≤ C ∧ g ≠ p ∧ g ≠ q ∧ g ≠ d ∧ ¬ L g

theorem row_set {w : World} {p : Nat} {q : Nat} {bv bv' : Value} {off base dep base' : Int} {eof : Bool} (hp : w.heap[p]? = some (.cells (rdCells q bv off base dep eof) 49 (0, 0))) :
    (((((w.setCell ⟨p, 1, none⟩ bv').setCell ⟨p, 3, none⟩ (.int .i64 base')).setCell ⟨p, 2, none⟩ (.int .i64 0)).drew)).heap[p]? = some (.cells (rdCells q bv' 0 base' dep eof) 49 (0, 0)) := by
  have h1 := set_same (o := 1) bv' hp
  have h2 := set_same (o := 3) (.int .i64 base') h1
  exact set_same (o := 2) (.int .i64 0) h2

theorem only3 {w wc : World} {p : Nat} {x y z : Value} (h : Still w wc) : Only (fun b => b = p) w ((((wc.setCell ⟨p, 1, none⟩ x).setCell ⟨p, 3, none⟩ y).setCell ⟨p, 2, none⟩ z).drew) :=
  ((((h.only (S := fun b => b = p)).setCell (b := p) rfl x).setCell (b := p) rfl y).setCell (b := p) rfl z).drew

theorem lt_of_heap {w : World} {b : Nat} {o : Obj} (h : w.heap[b]? = some o) : b < w.heap.size := (Array.getElem?_eq_some_iff.1 h).1

/-- Behind slices.Grow and the store of what it gave. -/
structure Grown (L : Nat → Prop) (p q d : Nat) (dv : Value) (zs : List Int) (x0 x1 : Addr) (i : Nat) (pr : Int) (base' dep : Int) (w : World) (g C : Nat) (cur : List Value) (bl : Nat) (eof : Bool) (wd : World) : Prop where
  glob : Glob L x0 x1 wd
  kept : Keep L w wd
  hp : wd.heap[p]? = some (.cells (rdCells q (.slice (some ⟨g, 0, none⟩) bl C) 0 base' dep eof) 49 (0, 0))
  hq : wd.heap[q]? = some (.cells #[dv, .int .i64 i, .int .i64 pr] 57 (0, 0))
  hd : Text wd d dv zs
  hg : wd.heap[g]? = some (.cells cur.toArray 5 (0, 0))
  c1 : 32768 ≤ C
  c2 : C ≤ 9223372036854775807
  c3 : C ≤ cur.length
  gp : g ≠ p
  gq : g ≠ q
  gd : g ≠ d
  gB : ¬ L g

theorem grown_mk {L : Nat → Prop} {p q d : Nat} {dv : Value} {zs : List Int} {x0 x1 : Addr} {i : Nat} {pr base' dep : Int} {w wc w1 : World} {a : Option Addr} {bl C g C' : Nat} {cur : List Value}
    (hG : Glob L x0 x1 w) (hq : w.heap[q]? = some (.cells #[dv, .int .i64 i, .int .i64 pr] 57 (0, 0))) (hd : Text w d dv zs) (hr : Room L w p q d a bl C) (hpB : ¬ L p) (hqB : ¬ L q) (hdB : L d) (hpq : p ≠ q)
    (e1 : wc.heap[p]? = some (.cells (rdCells q (.slice a 0 C) 0 base' dep false) 49 (0, 0))) (e2 : Only (fun b => b = p) w wc) (k1 : 32768 ≤ C') (k2 : C' ≤ 9223372036854775807) (k3 : C' ≤ cur.length)
    (k4 : w1.heap[g]? = some (.cells cur.toArray 5 (0, 0))) (k5 : Below wc.heap.size wc w1) (k6 : a = some ⟨g, 0, none⟩ ∨ g = wc.heap.size) :
    Grown L p q d dv zs x0 x1 i pr base' dep w g C' cur 0 false (w1.setCell ⟨p, 1, none⟩ (.slice (some ⟨g, 0, none⟩) 0 C')) := by
  have lp := lt_of_heap e1
  have lq : q < wc.heap.size := by rw [e2.size]; exact lt_of_heap hq
  have hlim : ∀ k, L k → k < wc.heap.size := fun k hk => by rw [e2.size]; exact hG.lim k hk
  have ld := hlim d hdB
  have hg : g ≠ p ∧ g ≠ q ∧ g ≠ d ∧ ¬ L g := by
    rcases k6 with h | h
    · rcases hr with ⟨h', _⟩ | ⟨g', cur', h', _, _, _, _, _, h1, h2, h3, h4⟩
      · rw [h'] at h; cases h
      · rw [h'] at h; cases h; exact ⟨h1, h2, h3, h4⟩
    · exact ⟨by omega, by omega, by omega, fun hL => by have := hlim g hL; omega⟩
  obtain ⟨gp, gq, gd, gB⟩ := hg
  have b1 : Keep L w w1 := (e2.keep (fun k hk => by have : k = p := hk; rw [this]; exact hpB)).trans (Keep.of_below k5 hlim)
  have b2 : Keep L w (w1.setCell ⟨p, 1, none⟩ (.slice (some ⟨g, 0, none⟩) 0 C')) := b1.setCell hpB _
  refine ⟨hG.keep b2, b2, ?_, ?_, ?_, ?_, k1, k2, k3, gp, gq, gd, gB⟩
  · exact set_same (o := 1) _ ((k5.block p lp).trans e1)
  · rw [set_other _ (fun e => hpq e.symm), k5.block q lq, e2.block q (fun e => hpq e.symm)]; exact hq
  · exact hd.of_block (b2.block d hdB)
  · rw [set_other _ gp]; exact k4

/-- Behind io.ReadAtLeast. -/
theorem Grown.read {L : Nat → Prop} {p q d : Nat} {dv : Value} {zs : List Int} {x0 x1 : Addr} {i k : Nat} {pr pr' base' dep : Int} {w wc w1 : World} {g C : Nat} {cur : List Value}
    (h : Grown L p q d dv zs x0 x1 i pr base' dep w g C cur 0 false wc) (hpq : p ≠ q) (hqB : ¬ L q) (hdB : L d) (hik : i + k ≤ zs.length) (hk : k ≤ C)
    (h1 : Only (fun b => b = q ∨ b = g) wc w1) (h2 : w1.heap[q]? = some (.cells #[dv, .int .i64 ((i + k : Nat) : Int), .int .i64 pr'] 57 (0, 0)))
    (h3 : w1.heap[g]? = some (.cells (splice cur 0 (part zs i k)).toArray 5 (0, 0))) :
    Grown L p q d dv zs x0 x1 (i + k) pr' base' dep w g C (splice cur 0 (part zs i k)) 0 false w1 := by
  have hpl := part_length zs i k hik
  have hb : Keep L wc w1 := h1.keep (fun b hb => by rcases hb with e | e <;> rw [e]; exact hqB; exact h.gB)
  refine ⟨h.glob.keep hb, h.kept.trans hb, ?_, h2, h.hd.of_block (hb.block d hdB), h3, h.c1, h.c2, ?_, h.gp, h.gq, h.gd, h.gB⟩
  · rw [h1.block p (by rintro (e | e); exact hpq e; exact h.gp e.symm)]; exact h.hp
  · rw [length_splice _ _ _ (by have := h.c3; omega)]; exact h.c3

/-- Behind a store into the Reader's second cell, and another into its sixth. -/
theorem Grown.len {L : Nat → Prop} {p q d : Nat} {dv : Value} {zs : List Int} {x0 x1 : Addr} {i : Nat} {pr base' dep : Int} {w wc : World} {g C bl : Nat} {cur : List Value} {eof : Bool}
    (h : Grown L p q d dv zs x0 x1 i pr base' dep w g C cur bl eof wc) (hpq : p ≠ q) (hpB : ¬ L p) (hdB : L d) (k : Nat) :
    Grown L p q d dv zs x0 x1 i pr base' dep w g C cur k eof (wc.setCell ⟨p, 1, none⟩ (.slice (some ⟨g, 0, none⟩) k C)) := by
  have hb : Keep L wc (wc.setCell ⟨p, 1, none⟩ (.slice (some ⟨g, 0, none⟩) k C)) := (Keep.refl _ _).setCell hpB _
  exact ⟨h.glob.keep hb, h.kept.trans hb, set_same (o := 1) _ h.hp, (set_other _ (fun e => hpq e.symm)).trans h.hq, h.hd.of_block (hb.block d hdB), (set_other _ h.gp).trans h.hg, h.c1, h.c2, h.c3, h.gp, h.gq, h.gd, h.gB⟩
theorem Grown.ends {L : Nat → Prop} {p q d : Nat} {dv : Value} {zs : List Int} {x0 x1 : Addr} {i : Nat} {pr base' dep : Int} {w wc : World} {g C bl : Nat} {cur : List Value} {eof : Bool}
    (h : Grown L p q d dv zs x0 x1 i pr base' dep w g C cur bl eof wc) (hpq : p ≠ q) (hpB : ¬ L p) (hdB : L d) (eof' : Bool) :
    Grown L p q d dv zs x0 x1 i pr base' dep w g C cur bl eof' (wc.setCell ⟨p, 5, none⟩ (.bool eof')) := by
  have hb : Keep L wc (wc.setCell ⟨p, 5, none⟩ (.bool eof')) := (Keep.refl _ _).setCell hpB _
  exact ⟨h.glob.keep hb, h.kept.trans hb, set_same (o := 5) _ h.hp, (set_other _ (fun e => hpq e.symm)).trans h.hq, h.hd.of_block (hb.block d hdB), (set_other _ h.gp).trans h.hg, h.c1, h.c2, h.c3, h.gp, h.gq, h.gd, h.gB⟩

theorem splice_get (cur : List Value) (zs : List Int) (i k j : Nat) (hik : i + k ≤ zs.length) (hj : j < k) : (splice cur 0 (part zs i k))[j]? = some (.int .u8 (zs.getD (i + j) 0)) := by
  have hpl := part_length zs i k hik
  rw [splice, List.take_zero, List.nil_append, List.getElem?_append_left (by omega), part_get zs i k j hik hj]

set_option maxRecDepth 100000 in
set_option maxHeartbeats 1000000 in
theorem fill_any (L : Nat → Prop) (p q d : Nat) (dv : Value) (zs : List Int) (a : Option Addr) (bl C base i : Nat) (dep : Int) (pr : Int) (x0 x1 : Addr) (w : World)
    (hG : Glob L x0 x1 w) (hpB : ¬ L p) (hqB : ¬ L q) (hdB : L d) (hpq : p ≠ q)
    (hp : w.heap[p]? = some (.cells (rdCells q (.slice a bl C) bl base dep false) 49 (0, 0)))
    (hq : w.heap[q]? = some (.cells #[dv, .int .i64 i, .int .i64 pr] 57 (0, 0))) (hd : Text w d dv zs) (hr : Room L w p q d a bl C) (hi : i ≤ zs.length) (hl : zs.length ≤ 100000000) (hbs : base + bl = i) :
    Calls Tryf.prog 29 #[.pointer (some ⟨p, 0, none⟩)] w fun e w' => ∃ (g C k : Nat) (cur : List Value) (pr' : Int) (eof : Bool), e = .returned .nilIface ∧
      Grown L p q d dv zs x0 x1 (i + k) pr' ((i : Nat) : Int) dep w g C cur k eof w' ∧ i + k ≤ zs.length ∧ k ≤ C ∧ (∀ j, j < k → cur[j]? = some (.int .u8 (zs.getD (i + j) 0))) ∧ (eof = false → 0 < k) ∧ (eof = true → i + k = zs.length) := by
  have hlen : C ≤ 9223372036854775807 ∧ bl ≤ C := by
    rcases hr with ⟨_, h1, h2⟩ | ⟨g, cur, _, _, _, _, h1, h2, _⟩
    · omega
    · exact ⟨h1, h2⟩
  obtain ⟨hC, hbC⟩ := hlen
  have hb : bl ≤ 1000000000 := by omega
  have hbb : base ≤ 1000000000 := by omega
  have h1 : w.cell? ⟨p, 1, none⟩ = some (.slice a bl C) := cell_of hp 1
  have h2 : w.cell? ⟨p, 2, none⟩ = some (.int .i64 bl) := cell_of hp 2
  have h3 : w.cell? ⟨p, 3, none⟩ = some (.int .i64 base) := cell_of hp 3
  have h5 : w.cell? ⟨p, 5, none⟩ = some (.bool false) := cell_of hp 5
  have h6 : w.cell? ⟨p, 6, none⟩ = some .nilIface := cell_of hp 6
  have HH := hide (And.intro hG (And.intro hp (And.intro hq (And.intro hd (And.intro hr hbs)))))
  have HM := hide (And.intro hpB (And.intro hqB (And.intro hdB hpq)))
  clear hG hp hq hd hr hbs hpB hqB hdB hpq
  go_enter Tryf.func29, Tryf.ntmps29
  go_wp2
  go_cut [3] (fun n wc => n = .int .i64 0 ∧ Still w wc)
  case first =>
    go_region_law (refine step_copy_eq rfl (.tmp 24) (.tmp 33) 22 22 rfl _ _ rfl rfl (by exact run_copy_none (P := Tryf.prog) _ 22 22 _ 5 _ _ _ _ _ _ Tryf.underlying22 Tryf.size5 (by simp)) ?_)
    all_goals go_wp2
    all_goals go_meet
    all_goals exact ⟨rfl, (Still.refl w).drew⟩
  case rest =>
    obtain ⟨rfl, hst⟩ := hcut
    have c1 : wc.cell? ⟨p, 1, none⟩ = some (.slice a bl C) := by rw [World.cell?_of_block (w := w) (by rw [hst.heap])]; exact h1
    have c2 : wc.cell? ⟨p, 2, none⟩ = some (.int .i64 bl) := by rw [World.cell?_of_block (w := w) (by rw [hst.heap])]; exact h2
    have c3 : wc.cell? ⟨p, 3, none⟩ = some (.int .i64 base) := by rw [World.cell?_of_block (w := w) (by rw [hst.heap])]; exact h3
    have hpc : wc.heap[p]? = some (.cells (rdCells q (.slice a bl C) bl base dep false) 49 (0, 0)) := by rw [hst.heap]; exact (unhide HH).2.1
    have f1 := frozen_of hpc 1
    have f2 := frozen_of hpc 2
    have f3 := frozen_of hpc 3
    have HP := hide hpc
    have HST := hide hst
    clear hpc hst
    go_wp2
    go_cut [] (fun wd => Only (fun b => b = p) w wd ∧ wd.heap[p]? = some (.cells (rdCells q (.slice a 0 C) 0 ((base : Int) + (bl : Int)) dep false) 49 (0, 0)))
    case first =>
      go_region
      all_goals go_wp2
      all_goals go_meet
      all_goals exact ⟨only3 (unhide HST), row_set (unhide HP)⟩
    case rest =>
      clear c1 c2 c3 f1 f2 f3 HP HST h1 h2 h3 h5 h6
      obtain ⟨e2, e1⟩ := hcut
      have c1 : wc.cell? ⟨p, 1, none⟩ = some (.slice a 0 C) := cell_of e1 1
      have f1 := frozen_of e1 1
      have E1 := hide e1
      have E2 := hide e2
      clear e1 e2
      have hroom : (a = none ∧ C = 0) ∨ ∃ (g : Nat) (cur : List Value), a = some ⟨g, 0, none⟩ ∧ wc.heap[g]? = some (.cells cur.toArray 5 (0, 0)) ∧ 32768 ≤ C ∧ C ≤ cur.length ∧ C ≤ 9223372036854775807 := by
        rcases (unhide HH).2.2.2.2.1 with ⟨h, _, h'⟩ | ⟨g, cur, h0, h1, h2, h3, h4, _, h5, _⟩
        · exact .inl ⟨h, h'⟩
        · exact .inr ⟨g, cur, h0, by rw [(unhide E2).block g h5]; exact h1, h2, h3, h4⟩
      have HR := hide hroom
      clear hroom
      go_upto_region 8 with fail
      go_cut [] (fun wd => ∃ g C' cur, Grown L p q d dv zs x0 x1 i pr ((base : Int) + (bl : Int)) dep w g C' cur 0 false wd)
      case first =>
        go_wp2_with fail
        refine (grow_any a C wc (unhide HR)).mono ?_
        rintro e w1 ⟨g, C', cur, rfl, k1, k2, k3, k4, k5, k6⟩
        obtain ⟨hG, hp, hq, hd, hr, hbs⟩ := unhide HH
        obtain ⟨hpB, hqB, hdB, hpq⟩ := unhide HM
        have hgr := grown_mk hG hq hd hr hpB hqB hdB hpq (unhide E1) (unhide E2) k1 k2 k3 k4 k5 k6
        have c1' : w1.cell? ⟨p, 1, none⟩ = some (.slice a 0 C) := by rw [World.cell?_of_block (w := wc) (k5.block p (lt_of_heap (unhide E1)))]; exact c1
        have f1' : w1.frozen? ⟨p, 1, none⟩ = false := by rw [World.frozen?_of_block (w := wc) (k5.block p (lt_of_heap (unhide E1)))]; exact f1
        have HGR := hide hgr
        clear k1 k2 k3 k4 k5 k6 hG hp hq hd hr hbs hpB hqB hdB hpq hgr
        go_wp2
        go_meet
        exact ⟨g, C', cur, unhide HGR⟩
      case rest =>
        obtain ⟨g, C', cur, hgr⟩ := hcut
        clear c1 f1 E1 E2 HR
        obtain ⟨hpB, hqB, hdB, hpq⟩ := unhide HM
        have c0 : wc.cell? ⟨p, 0, none⟩ = some (.iface 44 (.pointer (some ⟨q, 0, none⟩))) := cell_of hgr.hp 0
        have c1 : wc.cell? ⟨p, 1, none⟩ = some (.slice (some ⟨g, 0, none⟩) 0 C') := cell_of hgr.hp 1
        have hc32 : 32768 ≤ C' := hgr.c1
        have hc33 : (32768 : Int) ≤ (C' : Int) := by omega
        have hc34 : ¬ C' = 0 := by omega
        have hc35 : IntKind.i64.wrap 32768 = 32768 := by decide
        have HAL := hide (fun (wx : World) (h1 : Still wc wx) => atLeast_any q g d C' i dv pr zs cur x0 x1 L 32768 32768 wx rfl (by rw [h1.heap]; exact hgr.hq) (hgr.hd.of_block (by rw [h1.heap])) (by rw [h1.heap]; exact hgr.hg) hgr.gq (fun e => hqB (by rw [← e]; exact hdB)) (by omega) (by decide) (by decide) hgr.c1 hgr.c2
          (Nat.le_trans hgr.c1 hgr.c3) hi (hgr.glob.keep h1.keep) hqB hgr.gB)
        have HGR := hide hgr
        clear hgr hpB hqB hdB hpq
        go_wp2
        go_cut [5, 6] (fun rd er wd => ∃ (k : Nat) (pr' : Int), rd = .int .i64 k ∧ k ≤ 32768 ∧ i + k ≤ zs.length ∧ ((k = 32768 ∧ er = .nilIface) ∨ (i + k = zs.length ∧ (er = .iface 81 (.pointer (some x0)) ∨ er = .iface 81 (.pointer (some x1))))) ∧
          Grown L p q d dv zs x0 x1 (i + k) pr' ((base : Int) + (bl : Int)) dep w g C' (splice cur 0 (part zs i k)) 0 false wd)
        case first =>
          go_region_with (go_at_call 35; refine (unhide HAL _ (by exact (Still.refl _).drew)).mono ?_; rintro e w1 ⟨k, ev, pr', rfl, k1, k2, k3, k4, k5, k6⟩)
          all_goals
            have HK := hide (And.intro k1 (And.intro k2 (And.intro k3 (And.intro k4 (And.intro k5 k6)))))
            clear k1 k2 k3 k4 k5 k6
            go_wp2
            go_meet
            obtain ⟨k1, k2, k3, k4, k5, k6⟩ := unhide HK
            obtain ⟨hpB, hqB, hdB, hpq⟩ := unhide HM
            exact ⟨k, pr', rfl, k1, k2, k3, (unhide HGR).read hpq hqB hdB k2 (Nat.le_trans k1 (unhide HGR).c1) ((Only.refl _ _).drew.trans k4) k5 k6⟩
        case rest =>
          obtain ⟨k, pr', rfl, k1, k2, k3, hgr⟩ := hcut
          clear c0 c1 hc32 hc33 hc34 hc35 HAL HGR
          have c1 : wc.cell? ⟨p, 1, none⟩ = some (.slice (some ⟨g, 0, none⟩) 0 C') := cell_of hgr.hp 1
          have c5 : wc.cell? ⟨p, 5, none⟩ = some (.bool false) := cell_of hgr.hp 5
          have c6 : wc.cell? ⟨p, 6, none⟩ = some .nilIface := cell_of hgr.hp 6
          have f1 := frozen_of hgr.hp 1
          have f5 := frozen_of hgr.hp 5
          have hkC : k ≤ C' := Nat.le_trans k1 hgr.c1
          have hCm := hgr.c2
          obtain ⟨hpB, hqB, hdB, hpq⟩ := unhide HM
          have hl1 := hgr.len hpq hpB hdB k
          have g0 := hl1.glob.g0
          have g1 := hl1.glob.g1
          have HL := hide hl1
          have HB := hide (unhide HH).2.2.2.2.2
          have HC := hide (And.intro hpB (And.intro hdB hpq))
          have hb0 : ¬ 0 = p := fun e => (hl1.glob.not hpB).1 e.symm
          have hb1 : ¬ 1 = p := fun e => (hl1.glob.not hpB).2 e.symm
          have HSP := hide (fun j (hj : j < k) => splice_get cur zs i k j k2 hj)
          have hes := eql_same
          have heo : ∀ wx : World, wx.heap = (wc.setCell ⟨p, 1, none⟩ (.slice (some ⟨g, 0, none⟩) k C')).heap → (binOp .eql 29 (.iface 81 (.pointer (some x0))) (.iface 81 (.pointer (some x1)))).run Tryf.prog wx = .ok (.bool false) wx := by
            intro wx hwx
            obtain ⟨cx, tx, hx⟩ := hl1.glob.r0
            obtain ⟨cy, ty, hy⟩ := hl1.glob.r1
            exact eql_other x0 x1 wx hl1.glob.ne (by rw [hwx]; exact hx) (by rw [hwx]; exact hy)
          have heo' := heo _ rfl
          have hn0 := fun (wx : World) (x : Addr) => run_eql_iface_nil_left (P := Tryf.prog) wx (ti := 29) 81 (.pointer (some x)) Tryf.underlying29
          clear hl1 hgr HM HH hpB hqB hdB hpq heo
          rcases k3 with ⟨k3, rfl⟩ | ⟨k3, rfl | rfl⟩
          · have K3 := hide k3
            clear k3
            go_wp2
            go_ret
            obtain ⟨hpB, hdB, hpq⟩ := unhide HC
            exact ⟨g, C', k, _, pr', false, rfl, by rw [show ((i : Nat) : Int) = (base : Int) + (bl : Int) by have := unhide HB; omega]; exact unhide HL, k2, hkC, unhide HSP, (fun _ => by have := unhide K3; omega), (fun h => by cases h)⟩
          · have K3 := hide k3
            clear k3
            go_wp2
            go_ret
            obtain ⟨hpB, hdB, hpq⟩ := unhide HC
            exact ⟨g, C', k, _, pr', true, rfl, by rw [show ((i : Nat) : Int) = (base : Int) + (bl : Int) by have := unhide HB; omega]; exact (unhide HL).ends hpq hpB hdB true, k2, hkC, unhide HSP, (fun h => by cases h), (fun _ => unhide K3)⟩
          · have K3 := hide k3
            clear k3
            go_wp2
            go_ret
            obtain ⟨hpB, hdB, hpq⟩ := unhide HC
            exact ⟨g, C', k, _, pr', true, rfl, by rw [show ((i : Nat) : Int) = (base : Int) + (bl : Int) by have := unhide HB; omega]; exact (unhide HL).ends hpq hpB hdB true, k2, hkC, unhide HSP, (fun h => by cases h), (fun _ => unhide K3)⟩
end Go.Proofs.Qxb6614003aFmt
