/-
  (*Reader).Delim.
-/
import Derived.Test.Qxb6614003aFmtCommon
import Derived.Test.Qxb6614003aFmtFault
import Derived.Stop.CallBack
import Derived.Stop.IfaceNil
import GoSem.ClaimData
namespace Go.Proofs.Qxb6614003aFmt
open Go.RowKit Go.Extern.Stop Go.Stop Go.Extern
set_option linter.unusedVariables false

/-! ### Closed facts on fmt.Sprintf's stop at this program's numbers: function 33; the format of Delim's complaint; an int32 under the verb q. -/
@[go_sem] theorem Tryf.call33 (args : Array Value) (w : World) : (callFunc 33 args).run Tryf.prog w = ((FmtStop.sprintf #[9, 65] #[9] args).run Tryf.prog w).andThen fun v w' => .ok (.value v) w' :=
  run_callFunc_extern Tryf.func33 (by kernel_rfl) (by kernel_rfl) (by kernel_rfl) (by kernel_rfl) args w
@[go_sem] theorem Tryf.fguard (name : String) (w : World) : (FmtStop.guard name).run Tryf.prog w = .ok () w := by kernel_rfl
def Tryf.shape21 : List UInt8 := [4, 5, 0, 0, 0, 0, 0, 0, 0, 105, 110, 116, 51, 50]
@[go_sem] theorem Tryf.op21_113 (name : String) (x : Int) (w : World) : (FmtStop.operand name false 113 false (.iface 21 (.int .i32 x))).run Tryf.prog w = .ok (Tryf.shape21, Go.Extern.Stop.digits 8 (x % 2 ^ 64).toNat) w := by kernel_rfl
@[go_sem] theorem Tryf.fmtD : FmtStop.printed? ⟨#[105, 110, 118, 97, 108, 105, 100, 32, 99, 104, 97, 114, 97, 99, 116, 101, 114, 32, 37, 113, 44, 32, 119, 97, 110, 116, 32, 37, 113]⟩ 2 = some [(0, 113, false), (1, 113, false)] := by kernel_rfl
@[go_sem] theorem Tryf.fmtDr (w : World) : (FmtDoors.printed ⟨#[105, 110, 118, 97, 108, 105, 100, 32, 99, 104, 97, 114, 97, 99, 116, 101, 114, 32, 37, 113, 44, 32, 119, 97, 110, 116, 32, 37, 113]⟩ 2).run Tryf.prog w = .ok [(0, 113, false), (1, 113, false)] w := by kernel_rfl

/-- What the walks ask beside 'Glob': errors.errorType's handle. -/
structure Hand (L : Nat → Prop) (w : World) : Prop where
  l3 : L 3
  g3 : w.cell? ⟨3, 0, none⟩ = some (.iface 85 (.agg #[.pointer (some ⟨4, 29, none⟩)]))
theorem Hand.keep {L : Nat → Prop} {w w' : World} (h : Hand L w) (hk : Keep L w w') : Hand L w' := ⟨h.l3, by rw [hk.cell h.l3]; exact h.g3⟩

/-- By how much a delimiter moves the depth. -/
def dd (dl : Int) : Int := if dl = 123 ∨ dl = 91 then 1 else if dl = 125 ∨ dl = 93 then -1 else 0

/-- fault, where Delim calls it. -/
theorem fault_at (p : Nat) (w : World) (A : Obj) (o b : Int) (s : ByteArray) (hg : w.cell? ⟨3, 0, none⟩ = some (.iface 85 (.agg #[.pointer (some ⟨4, 29, none⟩)]))) (hp : w.cell? ⟨p, 3, none⟩ = some (.int .i64 b)) :
    Calls Tryf.prog 32 #[.pointer (some ⟨p, 0, none⟩), .iface 52 (.pointer (some ⟨w.heap.size + 1, 0, none⟩))] (((w.alloc A).alloc (.cells #[.int .i64 o, .string s] 55)).drew.drew) fun ev w' =>
      ev = .returned (.iface 52 (.pointer (some ⟨w.heap.size + 1, 0, none⟩))) ∧ Keep (fun k => k < w.heap.size) w w' := by
  have hb : Below w.heap.size w (((w.alloc A).alloc (.cells #[.int .i64 o, .string s] 55)).drew.drew) := (((Below.refl _ w).alloc (Nat.le_refl _) _).alloc (by simp) _).drew.drew
  have hs : (w.alloc A).heap.size = w.heap.size + 1 := by simp
  have he := heap_new (w.alloc A) (.cells #[.int .i64 o, .string s] 55)
  rw [hs] at he
  have hs2 : ((w.alloc A).alloc (.cells #[.int .i64 o, .string s] 55)).heap.size = w.heap.size + 2 := by simp
  refine (fault_any p (w.heap.size + 1) b o s (((w.alloc A).alloc (.cells #[.int .i64 o, .string s] 55)).drew.drew) ((hb.cell (lt_of_cell hg)).trans hg) ((hb.cell (lt_of_cell hp)).trans hp) he (by have := lt_of_cell hp; simp at this; omega)).mono ?_
  rintro ev w' ⟨rfl, hk⟩
  refine ⟨rfl, (Keep.of_below hb (fun _ h => h)).trans (hk.mono (fun k h => ⟨?_, by omega⟩))⟩
  show k < ((w.alloc A).alloc (.cells #[.int .i64 o, .string s] 55)).heap.size
  omega

section
variable {L : Nat → Prop} {p q d : Nat} {dv : Value} {zs : List Int} {x0 x1 : Addr} {dep : Int} {pos : Nat} {w : World}

theorem delim_end (dl : Int) (h : Rd L p q d dv zs x0 x1 dep pos w) (hk : Pl.nns zs pos = zs.length) :
    Calls Tryf.prog 19 #[.pointer (some ⟨p, 0, none⟩), .int .u8 dl] w fun e w' => e = .returned (.iface 81 (.pointer (some x0))) ∧ Rd L p q d dv zs x0 x1 dep zs.length w' ∧ Keep L w w' := by
  have H := hide (And.intro h hk)
  clear h hk
  go_enter Tryf.func19, Tryf.ntmps19
  go_wp2_with fail
  refine (peek_end (unhide H).1 (unhide H).2).mono ?_
  rintro e w1 ⟨rfl, h1, h2⟩
  have H1 := hide (And.intro h1 h2)
  clear h1 h2
  go_wp2_with fail
  go_ret
  exact ⟨rfl, unhide H1⟩

set_option maxRecDepth 100000 in
set_option maxHeartbeats 1000000 in
theorem delim_bad (dl : Int) (F : Interp) (hF : F.answers w.tape) (hH : Hand L w) (h : Rd L p q d dv zs x0 x1 dep pos w) (k : Nat) (z : Int) (hk : Pl.nns zs pos = k) (hlt : k < zs.length) (hz : zs.getD k 0 = z) (hne : z ≠ dl) :
    Calls Tryf.prog 19 #[.pointer (some ⟨p, 0, none⟩), .int .u8 dl] w fun e w' => ∃ eb, e = .returned (.iface 52 (.pointer (some ⟨eb, 0, none⟩))) ∧ Rd L p q d dv zs x0 x1 dep k w' ∧ Keep L w w' := by
  have H := hide (And.intro h (And.intro hk (And.intro hlt hz)))
  have HF := hide hF
  have HH := hide hH
  have hne' : (z != dl) = true := bne_iff_ne.2 hne
  clear h hk hlt hz hF hH hne
  go_enter Tryf.func19, Tryf.ntmps19
  go_wp2_with fail
  refine (peek_lt (unhide H).1 k z (unhide H).2.1 (unhide H).2.2.1 (unhide H).2.2.2).mono ?_
  rintro e w1 ⟨rfl, h1, h2⟩
  have hF1 : F.answers w1.tape := by rw [h2.tape]; exact unhide HF
  have hF' := answers_open hF1
  obtain ⟨b, o, c1, c2, c3, c4, c5⟩ := h1.cells
  have HC := hide (And.intro c1 (And.intro c4 c5))
  have H1 := hide (And.intro h1 h2)
  clear h1 h2 hF1 c1 c3 c4 c5
  go_wp2_with fail
  have hg3 := ((unhide HH).keep (unhide H1).2).g3
  have HG3 := hide hg3
  clear hg3
  have hp1 : p < w1.heap.size := lt_of_cell c2
  have hp2 : p < w1.heap.size + 1 := by omega
  have hp3 : p < w1.heap.size + 1 + 1 := by omega
  have hp4 : ¬ p = w1.heap.size := by omega
  have hp5 : ¬ p = w1.heap.size + 1 := by omega
  go_region_with (go_at_call 32; refine (fault_at p w1 _ _ b _ (unhide HG3) (unhide HC).1).mono ?_; rintro e w2 ⟨rfl, hk⟩)
  all_goals
    have HK := hide hk
    clear hk
    go_wp2
    go_ret
    exact ⟨_, rfl, (unhide H1).1.kept (unhide HK), (unhide H1).2.trans ((unhide HK).mono (unhide H1).1.glob.lim)⟩

set_option maxRecDepth 100000 in
set_option maxHeartbeats 1000000 in
theorem delim_good (dl : Int) (h : Rd L p q d dv zs x0 x1 dep pos w) (k : Nat) (hk : Pl.nns zs pos = k) (hlt : k < zs.length) (hz : zs.getD k 0 = dl) (hd1 : -1000000000 ≤ dep) (hd2 : dep ≤ 1000000000) :
    Calls Tryf.prog 19 #[.pointer (some ⟨p, 0, none⟩), .int .u8 dl] w fun e w' => e = .returned .nilIface ∧ Rd L p q d dv zs x0 x1 (dep + dd dl) (k + 1) w' ∧ Keep L w w' := by
  have H := hide (And.intro h (And.intro hk (And.intro hlt hz)))
  clear h hk hlt hz
  go_enter Tryf.func19, Tryf.ntmps19
  go_wp2_with fail
  refine (peek_in (unhide H).1 k dl (unhide H).2.1 (unhide H).2.2.1 (unhide H).2.2.2).mono ?_
  rintro e w1 ⟨rfl, h1, h2⟩
  obtain ⟨a, bl, C, base, off, i, pr, eof, hs, hpos, hin⟩ := h1
  have hoff := hin (unhide H).2.2.1
  have c2 : w1.cell? ⟨p, 2, none⟩ = some (.int .i64 off) := cell_of hs.hp 2
  have c4 : w1.cell? ⟨p, 4, none⟩ = some (.int .i64 dep) := cell_of hs.hp 4
  have f2 := frozen_of hs.hp 2
  have f4 := frozen_of hs.hp 4
  have hob : off ≤ 1000000000 := by have := hs.hb; have := hs.hi; have := hs.hl; omega
  have hne : (dl != dl) = false := by simp
  have HS := hide (And.intro hs (And.intro hpos (And.intro hoff h2)))
  clear hs hpos hin hoff h2
  by_cases e1 : dl = 123
  · subst e1
    go_wp2
    go_ret
    obtain ⟨hs, hpos, hoff, h2⟩ := unhide HS
    exact ⟨rfl, ⟨a, bl, C, base, off + 1, i, pr, eof, (hs.deep (dep + 1)).step (off + 1) hoff, by omega⟩, (h2.setCell hs.pB _).setCell hs.pB _⟩
  by_cases e2 : dl = 91
  · subst e2
    go_wp2
    go_ret
    obtain ⟨hs, hpos, hoff, h2⟩ := unhide HS
    exact ⟨rfl, ⟨a, bl, C, base, off + 1, i, pr, eof, (hs.deep (dep + 1)).step (off + 1) hoff, by omega⟩, (h2.setCell hs.pB _).setCell hs.pB _⟩
  by_cases e3 : dl = 125
  · subst e3
    go_wp2
    go_ret
    obtain ⟨hs, hpos, hoff, h2⟩ := unhide HS
    exact ⟨rfl, ⟨a, bl, C, base, off + 1, i, pr, eof, (hs.deep (dep + -1)).step (off + 1) hoff, by omega⟩, (h2.setCell hs.pB _).setCell hs.pB _⟩
  by_cases e4 : dl = 93
  · subst e4
    go_wp2
    go_ret
    obtain ⟨hs, hpos, hoff, h2⟩ := unhide HS
    exact ⟨rfl, ⟨a, bl, C, base, off + 1, i, pr, eof, (hs.deep (dep + -1)).step (off + 1) hoff, by omega⟩, (h2.setCell hs.pB _).setCell hs.pB _⟩
  have ed : dep + dd dl = dep := by unfold dd; rw [if_neg (by omega), if_neg (by omega)]; omega
  have HED := hide ed
  clear ed
  have g1 : (dl == 123) = false := beq_eq_false_iff_ne.2 e1
  have g2 : (dl == 91) = false := beq_eq_false_iff_ne.2 e2
  have g3 : (dl == 125) = false := beq_eq_false_iff_ne.2 e3
  have g4 : (dl == 93) = false := beq_eq_false_iff_ne.2 e4
  clear e1 e2 e3 e4
  go_wp2
  go_ret
  obtain ⟨hs, hpos, hoff, h2⟩ := unhide HS
  exact ⟨rfl, by rw [unhide HED]; exact ⟨a, bl, C, base, off + 1, i, pr, eof, hs.step (off + 1) hoff, by omega⟩, h2.setCell hs.pB _⟩
end
end Go.Proofs.Qxb6614003aFmt
