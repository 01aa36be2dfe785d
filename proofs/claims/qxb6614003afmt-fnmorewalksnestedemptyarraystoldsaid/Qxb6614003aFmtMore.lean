/-
  (*Reader).More.
-/
import Derived.Test.Qxb6614003aFmtDelim
namespace Go.Proofs.Qxb6614003aFmt
open Go.RowKit Go.Extern.Stop Go.Stop Go.Extern
set_option linter.unusedVariables false

section
variable {L : Nat → Prop} {p q d : Nat} {dv : Value} {zs : List Int} {x0 x1 : Addr} {dep : Int} {pos : Nat} {w : World}

theorem more_end (cl : Int) (first : Bool) (h : Rd L p q d dv zs x0 x1 dep pos w) (hk : Pl.nns zs pos = zs.length) :
    Calls Tryf.prog 23 #[.pointer (some ⟨p, 0, none⟩), .int .u8 cl, .bool first] w fun e w' => e = .returned (.tuple #[.bool false, .iface 81 (.pointer (some x0))]) ∧ Rd L p q d dv zs x0 x1 dep zs.length w' ∧ Keep L w w' := by
  have H := hide (And.intro h hk)
  clear h hk
  go_enter Tryf.func23, Tryf.ntmps23
  go_wp2_with fail
  refine (peek_end (unhide H).1 (unhide H).2).mono ?_
  rintro e w1 ⟨rfl, h1, h2⟩
  have H1 := hide (And.intro h1 h2)
  clear h1 h2
  go_wp2_with fail
  go_ret2
  exact ⟨rfl, unhide H1⟩

set_option maxRecDepth 100000 in
set_option maxHeartbeats 1000000 in
theorem more_close (cl : Int) (first : Bool) (h : Rd L p q d dv zs x0 x1 dep pos w) (k : Nat) (hk : Pl.nns zs pos = k) (hlt : k < zs.length) (hz : zs.getD k 0 = cl) (hd1 : -1000000000 ≤ dep) (hd2 : dep ≤ 1000000000) :
    Calls Tryf.prog 23 #[.pointer (some ⟨p, 0, none⟩), .int .u8 cl, .bool first] w fun e w' => e = .returned (.tuple #[.bool false, .nilIface]) ∧ Rd L p q d dv zs x0 x1 (dep - 1) (k + 1) w' ∧ Keep L w w' := by
  have H := hide (And.intro h (And.intro hk (And.intro hlt hz)))
  clear h hk hlt hz
  go_enter Tryf.func23, Tryf.ntmps23
  go_wp2_with fail
  refine (peek_in (unhide H).1 k cl (unhide H).2.1 (unhide H).2.2.1 (unhide H).2.2.2).mono ?_
  rintro e w1 ⟨rfl, h1, h2⟩
  obtain ⟨a, bl, C, base, off, i, pr, eof, hs, hpos, hin⟩ := h1
  have hoff := hin (unhide H).2.2.1
  have c2 : w1.cell? ⟨p, 2, none⟩ = some (.int .i64 off) := cell_of hs.hp 2
  have c4 : w1.cell? ⟨p, 4, none⟩ = some (.int .i64 dep) := cell_of hs.hp 4
  have f2 := frozen_of hs.hp 2
  have f4 := frozen_of hs.hp 4
  have hob : off ≤ 1000000000 := by have := hs.hb; have := hs.hi; have := hs.hl; omega
  have heq : (cl == cl) = true := by simp
  have HS := hide (And.intro hs (And.intro hpos (And.intro hoff h2)))
  clear hs hpos hin hoff h2
  go_wp2
  go_ret2
  obtain ⟨hs, hpos, hoff, h2⟩ := unhide HS
  exact ⟨rfl, ⟨a, bl, C, base, off + 1, i, pr, eof, (hs.step (off + 1) hoff).deep (dep - 1), by omega⟩, (h2.setCell hs.pB _).setCell hs.pB _⟩

theorem more_first (cl : Int) (h : Rd L p q d dv zs x0 x1 dep pos w) (k : Nat) (z : Int) (hk : Pl.nns zs pos = k) (hlt : k < zs.length) (hz : zs.getD k 0 = z) (hne : z ≠ cl) :
    Calls Tryf.prog 23 #[.pointer (some ⟨p, 0, none⟩), .int .u8 cl, .bool true] w fun e w' => e = .returned (.tuple #[.bool true, .nilIface]) ∧ Rd L p q d dv zs x0 x1 dep k w' ∧ Keep L w w' := by
  have H := hide (And.intro h (And.intro hk (And.intro hlt hz)))
  have hne' : (z == cl) = false := beq_eq_false_iff_ne.2 hne
  clear h hk hlt hz hne
  go_enter Tryf.func23, Tryf.ntmps23
  go_wp2_with fail
  refine (peek_lt (unhide H).1 k z (unhide H).2.1 (unhide H).2.2.1 (unhide H).2.2.2).mono ?_
  rintro e w1 ⟨rfl, h1, h2⟩
  have H1 := hide (And.intro h1 h2)
  clear h1 h2
  go_wp2_with fail
  go_ret2
  exact ⟨rfl, unhide H1⟩

theorem more_comma (cl : Int) (h : Rd L p q d dv zs x0 x1 dep pos w) (k : Nat) (hk : Pl.nns zs pos = k) (hlt : k < zs.length) (hz : zs.getD k 0 = 44) (hne : 44 ≠ cl) (hd1 : -1000000000 ≤ dep) (hd2 : dep ≤ 1000000000) :
    Calls Tryf.prog 23 #[.pointer (some ⟨p, 0, none⟩), .int .u8 cl, .bool false] w fun e w' => e = .returned (.tuple #[.bool true, .nilIface]) ∧ Rd L p q d dv zs x0 x1 dep (k + 1) w' ∧ Keep L w w' := by
  have H := hide (And.intro h (And.intro hk (And.intro hlt hz)))
  have hne' : ((44 : Int) == cl) = false := beq_eq_false_iff_ne.2 hne
  clear h hk hlt hz hne
  go_enter Tryf.func23, Tryf.ntmps23
  go_wp2_with fail
  refine (peek_lt (unhide H).1 k 44 (unhide H).2.1 (unhide H).2.2.1 (unhide H).2.2.2).mono ?_
  rintro e w1 ⟨rfl, h1, h2⟩
  have H1 := hide (And.intro h1 h2)
  clear h1 h2
  go_wp2_with fail
  refine (delim_good 44 (unhide H1).1 k (by rw [← (unhide H).2.1]; exact Pl.nns_idem zs pos) (unhide H).2.2.1 (unhide H).2.2.2 hd1 hd2).mono ?_
  rintro e w2 ⟨rfl, h1, h2⟩
  rw [show dep + dd 44 = dep by show dep + 0 = dep; omega] at h1
  have H2 := hide (And.intro h1 h2)
  clear h1 h2
  go_wp2_with fail
  go_ret2
  exact ⟨rfl, (unhide H2).1, (unhide H1).2.trans (unhide H2).2⟩

theorem more_bad (F : Interp) (hF : F.answers w.tape) (hH : Hand L w) (cl : Int) (h : Rd L p q d dv zs x0 x1 dep pos w) (k : Nat) (z : Int) (hk : Pl.nns zs pos = k) (hlt : k < zs.length) (hz : zs.getD k 0 = z) (hne : z ≠ cl) (hne4 : z ≠ 44) :
    Calls Tryf.prog 23 #[.pointer (some ⟨p, 0, none⟩), .int .u8 cl, .bool false] w fun e w' => ∃ eb, e = .returned (.tuple #[.bool true, .iface 52 (.pointer (some ⟨eb, 0, none⟩))]) ∧ Rd L p q d dv zs x0 x1 dep k w' ∧ Keep L w w' := by
  have H := hide (And.intro h (And.intro hk (And.intro hlt (And.intro hz hne4))))
  have HF := hide (And.intro hF hH)
  have hne' : (z == cl) = false := beq_eq_false_iff_ne.2 hne
  clear h hk hlt hz hne hne4 hF hH
  go_enter Tryf.func23, Tryf.ntmps23
  go_wp2_with fail
  refine (peek_lt (unhide H).1 k z (unhide H).2.1 (unhide H).2.2.1 (unhide H).2.2.2.1).mono ?_
  rintro e w1 ⟨rfl, h1, h2⟩
  have H1 := hide (And.intro h1 h2)
  clear h1 h2
  go_wp2_with fail
  refine (delim_bad 44 F (by rw [(unhide H1).2.tape]; exact (unhide HF).1) ((unhide HF).2.keep (unhide H1).2) (unhide H1).1 k z (by rw [← (unhide H).2.1]; exact Pl.nns_idem zs pos) (unhide H).2.2.1 (unhide H).2.2.2.1 (unhide H).2.2.2.2).mono ?_
  rintro e w2 ⟨eb, rfl, h1, h2⟩
  have H2 := hide (And.intro h1 h2)
  clear h1 h2
  go_wp2_with fail
  go_ret2
  exact ⟨eb, rfl, (unhide H2).1, (unhide H1).2.trans (unhide H2).2⟩
end
end Go.Proofs.Qxb6614003aFmt
