/-
  FnDelimWalksDelimiters: the walk.
-/
import Derived.Test.Qxb6614003aFmtRefuse
import Derived.Deep.LoopGhost
namespace Go.Proofs.Qxb6614003aFmt
open Go.RowKit Go.Extern.Stop Go.Stop Go.Extern
set_option linter.unusedVariables false

theorem bytes17_no (a : Option Addr) (len cap : Nat) (w : World) (h : (1048576 : Int) < len) (hc : len ≤ 9223372036854775807) :
    Calls Tryf.prog 17 #[.slice a len cap] w fun e w' => e = .returned (.bool false) ∧ w' = w := by
  go_enter Tryf.func17, Tryf.ntmps17
  go_wp2
  go_ret
  exact ⟨rfl, rfl⟩
theorem bytes17_yes (a : Option Addr) (len cap : Nat) (w : World) (h : (len : Int) ≤ 1048576) :
    Calls Tryf.prog 17 #[.slice a len cap] w fun e w' => e = .returned (.bool true) ∧ w' = w := by
  go_enter Tryf.func17, Tryf.ntmps17
  go_wp2
  go_ret
  exact ⟨rfl, rfl⟩
theorem dd_bound (z : Int) : -1 ≤ dd z ∧ dd z ≤ 1 := by unfold dd; split <;> (try split) <;> omega

set_option maxRecDepth 100000 in
set_option maxHeartbeats 2000000 in
theorem delims_walk (F : Interp) (a : Option Addr) (len cap : Nat) (zs : List Int) (x0 x1 : Addr) (w : World) (hF : F.answers w.tape) (hin : In w a len cap zs) (hcap : len ≤ 9223372036854775807) (hG : Glob (fun k => k < w.heap.size) x0 x1 w) (hH : Hand (fun k => k < w.heap.size) w) :
    Calls Tryf.prog 5 #[.slice a len cap] w fun e w' => e = .returned (.bool true) ∧ Below w.heap.size w w' := by
  by_cases hbig : (len : Int) ≤ 1048576
  · have HL := hide hin.len
    have HI := hide hin
    have HG := hide hG
    clear hin hG hH hF
    go_enter Tryf.func5, Tryf.ntmps5
    go_wp2_with fail
    refine (bytes17_yes a len cap w hbig).mono ?_
    rintro e w' ⟨rfl, rfl⟩
    go_wp2_with fail
    refine (clone_any a len cap zs _ (unhide HI) (by omega) ((unhide HG).lim 0 (unhide HG).l0)).mono ?_
    rintro e w1 ⟨d, dv, rfl, ht, hd, hb1⟩
    obtain ⟨a1, hdv⟩ := ht.named (unhide HL)
    subst hdv
    have hlz : zs.length ≤ 100000000 := by have := unhide HL; omega
    have HT := hide (And.intro ht (And.intro hd (And.intro hb1 (And.intro (glob_up (unhide HG) hb1) hlz))))
    clear ht hd hb1 hlz
    go_wp2_with fail
    refine (newReader_rd d _ zs x0 x1 _ (unhide HT).2.2.2.1 (unhide HT).1 (unhide HT).2.1 (unhide HT).2.2.2.2).mono ?_
    rintro e w2 ⟨rfl, hb2, hr⟩
    have hb0 : Below w'.heap.size w' w2 := (unhide HT).2.2.1.trans (hb2.mono (unhide HT).2.2.1.size)
    have HS := hide (And.intro hr (And.intro hb0 (unhide HT).2.2.1.size))
    have HLZ := hide (unhide HT).2.2.2.2
    clear hr hb0 hb2 HT HI HG
    go_wp2_with fail
    refine (next_text (i := 0) (unhide HS).1.text (Nat.zero_le _) (by have := unhide HLZ; omega)).mono ?_
    rintro e w2 ⟨rfl, rfl⟩
    go_wp2_with fail
    go_loopg [4, 5] (len + 1) (fun k dp iv wr => ∃ (i pos : Nat) (D : Int), dp = .int .i64 D ∧ iv = .int .i64 i ∧ i ≤ len ∧ Pl.nns zs pos = i ∧ (-(i : Int) ≤ D ∧ D ≤ i) ∧ len - i < k ∧
      Rd (fun k => k < w1.heap.size) (w1.heap.size + 1) w1.heap.size d (.slice a1 len len) zs x0 x1 D pos wr ∧ Keep (fun k => k < w1.heap.size) w2 wr)
    case atStart =>
      have := Pl.nns_le zs 0 (Nat.zero_le _)
      exact ⟨_, 0, 0, rfl, rfl, by rw [unhide HL]; exact this, rfl, by omega, by omega, (unhide HS).1, Keep.refl _ _⟩
    case round =>
      obtain ⟨i, pos, D, rfl, rfl, hi, hpos, hD, hgk, hr, hk⟩ := hrel
      by_cases hlt : i < len
      · have hlt' : i < zs.length := by rw [← unhide HL]; exact hlt
        obtain ⟨z, hz⟩ : ∃ z, z = zs.getD i 0 := ⟨_, rfl⟩
        obtain ⟨ha1, _⟩ := hr.text.at hlt'
        subst ha1
        have HR := hide (And.intro hr (And.intro hk (And.intro hpos (And.intro hlt' hz))))
        obtain ⟨hD1, hD2⟩ := hD
        clear hr hk hpos hlt' hz
        cases hdl : isDl z with
        | false =>
          go_wp2_with fail
          refine (peek_lt (unhide HR).1 i z (unhide HR).2.2.1 (unhide HR).2.2.2.1 (unhide HR).2.2.2.2.symm).mono ?_
          rintro e w3 ⟨rfl, hr3, hk3⟩
          have hcell : w3.cell? ⟨d, i, none⟩ = some (.int .u8 z) := by rw [(hr3.text.at (unhide HR).2.2.2.1).2, (unhide HR).2.2.2.2]
          have HR3 := hide (And.intro hr3 hk3)
          clear hr3 hk3
          go_wp2_with fail
          refine (pos_rd (unhide HR3).1).mono ?_
          rintro e w3 ⟨rfl, rfl⟩
          go_wp2_with fail
          refine (depth_rd (unhide HR3).1).mono ?_
          rintro e w3 ⟨rfl, rfl⟩
          go_wp2_with fail
          refine (isDelim_any z _).mono ?_
          rintro e w3 ⟨rfl, rfl⟩
          go_wp2_with fail
          go_ret
          exact ⟨rfl, (unhide HS).2.1.trans (((unhide HR).2.1.trans (unhide HR3).2).below (B := w1.heap.size) (fun _ h => h) |>.mono (unhide HS).2.2)⟩
        | true =>
          have hi1 : i + 1 ≤ zs.length := (unhide HR).2.2.2.1
          have hdb := dd_bound z
          go_wp2_with fail
          refine (peek_lt (unhide HR).1 i z (unhide HR).2.2.1 (unhide HR).2.2.2.1 (unhide HR).2.2.2.2.symm).mono ?_
          rintro e w3 ⟨rfl, hr3, hk3⟩
          have hcell : w3.cell? ⟨d, i, none⟩ = some (.int .u8 z) := by rw [(hr3.text.at (unhide HR).2.2.2.1).2, (unhide HR).2.2.2.2]
          have HR3 := hide (And.intro hr3 hk3)
          clear hr3 hk3
          go_wp2_with fail
          refine (pos_rd (unhide HR3).1).mono ?_
          rintro e w3 ⟨rfl, rfl⟩
          go_wp2_with fail
          refine (depth_rd (unhide HR3).1).mono ?_
          rintro e w3 ⟨rfl, rfl⟩
          go_wp2_with fail
          refine (isDelim_any z _).mono ?_
          rintro e w3 ⟨rfl, rfl⟩
          go_wp2_with fail
          refine (delim_good z (unhide HR3).1 i (by rw [← (unhide HR).2.2.1]; exact Pl.nns_idem zs pos) (unhide HR).2.2.2.1 (unhide HR).2.2.2.2.symm (by omega) (by omega)).mono ?_
          rintro e w4 ⟨rfl, hr4, hk4⟩
          have hnext := next_text (i := i + 1) hr4.text hi1 (by have := unhide HLZ; omega)
          rw [show ((i + 1 : Nat) : Int) = (i : Int) + 1 by omega] at hnext
          have hposr := pos_rd hr4
          rw [show ((i + 1 : Nat) : Int) = (i : Int) + 1 by omega] at hposr
          have hkk : Keep (fun k => k < w1.heap.size) w2 w4 := ((unhide HR).2.1.trans (unhide HR3).2).trans hk4
          have hle := Pl.nns_le zs (i + 1) hi1
          have hge := Pl.nns_ge zs (i + 1)
          obtain ⟨m, hm⟩ : ∃ m, m = Pl.nns zs (i + 1) := ⟨_, rfl⟩
          rw [← hm] at hnext hle hge
          have HR4 := hide (And.intro hr4 (And.intro hkk (And.intro hnext (And.intro hposr (And.intro hle (And.intro hge hm))))))
          clear hr4 hkk hnext hposr hk4 hle hge hm HR3 hcell
          rcases five z with ⟨e1, e2⟩ | ⟨e1, e2⟩ | ⟨e1, e2⟩ | ⟨e1, e2⟩ | ⟨g1, g2, g3, g4, e2⟩
          all_goals
            obtain ⟨E, hE⟩ : ∃ E, E = D + dd z := ⟨_, rfl⟩
            have hdep := depth_rd (unhide HR4).1
            have hrr := (unhide HR4).1
            rw [← hE] at hdep hrr
            rw [e2] at hE
            have HDP := hide (And.intro hdep hrr)
            clear hdep hrr e2
            first | subst e1 | skip
            have hE1 : -(i : Int) - 1 ≤ E ∧ E ≤ (i : Int) + 1 := by omega
            obtain ⟨hE2, hE3⟩ := hE1
            first
              | (have hE' : E = D + 1 := hE; clear hE; subst hE')
              | (have hE' : E = D - 1 := by omega
                 clear hE; subst hE')
              | (have hE' : E = D := by omega
                 clear hE; subst hE')
            go_wp2_with fail
            refine (unhide HDP).1.mono ?_
            rintro e w4 ⟨rfl, rfl⟩
            go_wp2_with fail
            refine (unhide HR4).2.2.2.1.mono ?_
            rintro e w4 ⟨rfl, rfl⟩
            go_wp2_with fail
            refine (unhide HR4).2.2.1.mono ?_
            rintro e w4 ⟨rfl, rfl⟩
            go_wp2_with fail
            have hl0 := unhide HL
            obtain ⟨_, hkk, _, _, hle, hge, hm⟩ := unhide HR4
            go_roundg (len - m + 1)
            case measure => omega
            case rel => exact ⟨m, i + 1, _, rfl, rfl, by omega, hm.symm, by omega, by omega, (unhide HDP).2, hkk⟩
      · have hil : i = len := by omega
        subst hil
        have hend : Pl.nns zs pos = zs.length := by rw [hpos, unhide HL]
        have HR := hide (And.intro hr (And.intro hk hend))
        obtain ⟨hD1, hD2⟩ := hD
        clear hr hk hend hpos
        go_wp2_with fail
        refine (peek_end (unhide HR).1 (unhide HR).2.2).mono ?_
        rintro e w3 ⟨rfl, hr3, hk3⟩
        rw [← unhide HL] at hr3
        have HR3 := hide (And.intro hr3 hk3)
        clear hr3 hk3
        go_wp2_with fail
        refine (pos_rd (unhide HR3).1).mono ?_
        rintro e w3 ⟨rfl, rfl⟩
        go_wp2_with fail
        refine (depth_rd (unhide HR3).1).mono ?_
        rintro e w3 ⟨rfl, rfl⟩
        go_wp2_with fail
        go_ret
        exact ⟨rfl, (unhide HS).2.1.trans (((unhide HR).2.1.trans (unhide HR3).2).below (B := w1.heap.size) (fun _ h => h) |>.mono (unhide HS).2.2)⟩
  · have HX := hide (bytes17_no a len cap w (by omega) hcap)
    clear hin hG hH hF
    go_enter Tryf.func5, Tryf.ntmps5
    go_wp2_with fail
    refine (unhide HX).mono ?_
    rintro e w' ⟨rfl, rfl⟩
    go_wp2_with fail
    go_ret
    exact ⟨rfl, Below.refl _ _⟩
end Go.Proofs.Qxb6614003aFmt
