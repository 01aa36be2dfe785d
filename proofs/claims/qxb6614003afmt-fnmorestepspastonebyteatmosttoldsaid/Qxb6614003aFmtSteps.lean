/-
  FnMoreStepsPastOneByteAtMost: the walk.
-/
import Derived.Test.Qxb6614003aFmtRefuse
import Derived.Test.Qxb6614003aFmtMore
import Derived.Deep.DeepCutAuto
namespace Go.Proofs.Qxb6614003aFmt
open Go.RowKit Go.Extern.Stop Go.Stop Go.Extern
set_option linter.unusedVariables false

theorem bytes24_no (a : Option Addr) (len cap : Nat) (cl : Int) (first : Bool) (w : World) (h : (1048576 : Int) < len) (hc : len ≤ 9223372036854775807) :
    Calls Tryf.prog 24 #[.slice a len cap, .int .u8 cl, .bool first] w fun e w' => e = .returned (.bool false) ∧ w' = w := by
  go_enter Tryf.func24, Tryf.ntmps24
  go_wp2
  go_ret
  exact ⟨rfl, rfl⟩
theorem bytes24_yes (a : Option Addr) (len cap : Nat) (cl : Int) (first : Bool) (w : World) (h : (len : Int) ≤ 1048576) :
    Calls Tryf.prog 24 #[.slice a len cap, .int .u8 cl, .bool first] w fun e w' => e = .returned (.bool true) ∧ w' = w := by
  go_enter Tryf.func24, Tryf.ntmps24
  go_wp2
  go_ret
  exact ⟨rfl, rfl⟩

set_option maxRecDepth 100000 in
set_option maxHeartbeats 2000000 in
theorem steps_walk (F : Interp) (a : Option Addr) (len cap : Nat) (cl : Int) (first : Bool) (zs : List Int) (x0 x1 : Addr) (w : World) (hF : F.answers w.tape) (hin : In w a len cap zs) (hcap : len ≤ 9223372036854775807) (hG : Glob (fun k => k < w.heap.size) x0 x1 w) (hH : Hand (fun k => k < w.heap.size) w) :
    Calls Tryf.prog 8 #[.slice a len cap, .int .u8 cl, .bool first] w fun e w' => e = .returned (.bool true) ∧ Below w.heap.size w w' := by
  by_cases hbig : (len : Int) ≤ 1048576
  · have HL := hide hin.len
    have HI := hide hin
    have HG := hide hG
    have HH := hide hH
    have HF := hide hF
    clear hin hG hH hF
    by_cases hcl : cl = 125 ∨ cl = 93
    · have HCL := hide hcl
      clear hcl
      go_enter Tryf.func8, Tryf.ntmps8
      go_wp2_with fail
      refine (bytes24_yes a len cap cl first w hbig).mono ?_
      rintro e w' ⟨rfl, rfl⟩
      go_upto_region 5 with fail
      go_cut [29] (fun v wd => v = .bool false ∧ wd = w')
      case first =>
        rcases unhide HCL with e1 | e1
        · subst e1
          go_wp2
          go_meet
          exact ⟨rfl, rfl⟩
        · subst e1
          go_wp2
          go_meet
          exact ⟨rfl, rfl⟩
      case rest =>
        obtain ⟨rfl, rfl⟩ := hcut
        go_wp2_with fail
        refine (clone_any a len cap zs _ (unhide HI) (by omega) ((unhide HG).lim 0 (unhide HG).l0)).mono ?_
        rintro e w1 ⟨d, dv, rfl, ht, hd, hb1⟩
        obtain ⟨a1, hdv⟩ := ht.named (unhide HL)
        subst hdv
        have hlz : zs.length ≤ 100000000 := by have := unhide HL; omega
        have HT := hide (And.intro ht (And.intro hd (And.intro hb1 (And.intro (glob_up (unhide HG) hb1) hlz))))
        clear ht hd hb1 hlz
        go_wp2_with fail
        refine (newReader_rd d _ zs x0 x1 _ (unhide HT).2.2.2.1 (unhide HT).1 (unhide HT).2.1 (unhide HT).2.2.2.2).mono ?_
        rintro e w2 ⟨rfl, hb2, hr⟩
        have hb0 : Below wc.heap.size wc w2 := (unhide HT).2.2.1.trans (hb2.mono (unhide HT).2.2.1.size)
        have hH2 : Hand (fun k => k < w1.heap.size) w2 := ⟨Nat.lt_of_lt_of_le (unhide HH).l3 (unhide HT).2.2.1.size, (hb0.cell (unhide HH).l3).trans (unhide HH).g3⟩
        have hF2 : F.answers w2.tape := by rw [hb0.tape]; exact unhide HF
        have HS := hide (And.intro hr (And.intro hH2 (And.intro hF2 (And.intro hb0 (unhide HT).2.2.1.size))))
        have HLZ := hide (unhide HT).2.2.2.2
        clear hr hH2 hF2 hb0 hb2 HT HH HF HI HG
        go_wp2_with fail
        refine (next_text (i := 0) (unhide HS).1.text (Nat.zero_le _) (by have := unhide HLZ; omega)).mono ?_
        rintro e w2 ⟨rfl, rfl⟩
        by_cases hlt : Pl.nns zs 0 < zs.length
        · obtain ⟨k, hk⟩ : ∃ k, k = Pl.nns zs 0 := ⟨_, rfl⟩
          obtain ⟨z, hz⟩ : ∃ z, z = zs.getD k 0 := ⟨_, rfl⟩
          rw [← hk] at hlt ⊢
          obtain ⟨ha1, _⟩ := (unhide HS).1.text.at hlt
          subst ha1
          have hkl : k < len := by rw [unhide HL]; exact hlt
          have hkne : ((k : Int) == (len : Int)) = false := beq_eq_false_iff_ne.2 (by omega)
          have hk1 : k + 1 ≤ zs.length := hlt
          have HK := hide (And.intro hk (And.intro hz hlt))
          have HC0 := hide (fun (wx : World) (ht : Text wx d (.slice (some ⟨d, 0, none⟩) len len) zs) => (show wx.cell? ⟨d, k, none⟩ = some (.int .u8 z) by rw [(ht.at hlt).2, hz]))
          clear hk hz hlt
          by_cases hzc : z = cl
          · subst hzc
            have hzz : (z == z) = true := by simp
            go_wp2_with fail
            refine (more_close z first (unhide HS).1 k (unhide HK).1.symm (unhide HK).2.2 (unhide HK).2.1.symm (by decide) (by decide)).mono ?_
            rintro e w3 ⟨rfl, hr3, hk3⟩
            rw [show (0 : Int) - 1 = -1 by decide] at hr3
            have HR3 := hide (And.intro hr3 hk3)
            clear hr3 hk3
            by_cases hj : Pl.nns zs (k + 1) < zs.length
            · obtain ⟨m, hm⟩ : ∃ m, m = Pl.nns zs (k + 1) := ⟨_, rfl⟩
              obtain ⟨y, hy⟩ : ∃ y, y = zs.getD m 0 := ⟨_, rfl⟩
              rw [← hm] at hj
              have hml : m < len := by rw [unhide HL]; exact hj
              have hmne : ((m : Int) == (len : Int)) = false := beq_eq_false_iff_ne.2 (by omega)
              have HM := hide (And.intro hm (And.intro hy hj))
              clear hm hy hj
              go_wp2_with fail
              refine (peek_lt (unhide HR3).1 m y (unhide HM).1.symm (unhide HM).2.2 (unhide HM).2.1.symm).mono ?_
              rintro e w4 ⟨rfl, hr4, hk4⟩
              have hcell := unhide HC0 w4 hr4.text
              have hcell2 : w4.cell? ⟨d, m, none⟩ = some (.int .u8 y) := by rw [(hr4.text.at (unhide HM).2.2).2, (unhide HM).2.1]
              have HR4 := hide (And.intro hr4 hk4)
              clear hr4 hk4
              go_wp2_with fail
              refine (depth_rd (unhide HR4).1).mono ?_
              rintro e w4 ⟨rfl, rfl⟩
              go_wp2_with fail
              refine (pos_rd (unhide HR4).1).mono ?_
              rintro e w4 ⟨rfl, rfl⟩
              have hnext := next_text (i := k + 1) (unhide HR4).1.text hk1 (by have := unhide HLZ; omega)
              rw [show ((k + 1 : Nat) : Int) = (k : Int) + 1 by omega, ← (unhide HM).1] at hnext
              have HNX := hide hnext
              clear hnext
              go_wp2_with fail
              refine (unhide HNX).mono ?_
              rintro e w4 ⟨rfl, rfl⟩
              go_wp2_with fail
              go_ret
              exact ⟨rfl, (unhide HS).2.2.2.1.trans ((((unhide HR3).2.trans (unhide HR4).2).below (B := w1.heap.size) (fun _ h => h)).mono (unhide HS).2.2.2.2)⟩
            · have hje : Pl.nns zs (k + 1) = zs.length := by have := Pl.nns_le zs (k + 1) hk1; omega
              have hjl : Pl.nns zs (k + 1) = len := by rw [hje, unhide HL]
              have HM := hide (And.intro hje hjl)
              clear hje hjl hj
              go_wp2_with fail
              refine (peek_end (unhide HR3).1 (unhide HM).1).mono ?_
              rintro e w4 ⟨rfl, hr4, hk4⟩
              have hcell := unhide HC0 w4 hr4.text
              rw [← unhide HL] at hr4
              have HR4 := hide (And.intro hr4 hk4)
              clear hr4 hk4
              go_wp2_with fail
              refine (depth_rd (unhide HR4).1).mono ?_
              rintro e w4 ⟨rfl, rfl⟩
              go_wp2_with fail
              refine (pos_rd (unhide HR4).1).mono ?_
              rintro e w4 ⟨rfl, rfl⟩
              have hnext := next_text (i := k + 1) (unhide HR4).1.text hk1 (by have := unhide HLZ; omega)
              rw [show ((k + 1 : Nat) : Int) = (k : Int) + 1 by omega, (unhide HM).2] at hnext
              have HNX := hide hnext
              clear hnext
              go_wp2_with fail
              refine (unhide HNX).mono ?_
              rintro e w4 ⟨rfl, rfl⟩
              go_wp2_with fail
              go_ret
              exact ⟨rfl, (unhide HS).2.2.2.1.trans ((((unhide HR3).2.trans (unhide HR4).2).below (B := w1.heap.size) (fun _ h => h)).mono (unhide HS).2.2.2.2)⟩
          have hzb : (z == cl) = false := beq_eq_false_iff_ne.2 hzc
          have HZC := hide hzc
          clear hzc
          cases first with
          | true =>
            go_wp2_with fail
            refine (more_first cl (unhide HS).1 k z (unhide HK).1.symm (unhide HK).2.2 (unhide HK).2.1.symm (unhide HZC)).mono ?_
            rintro e w3 ⟨rfl, hr3, hk3⟩
            have HR3 := hide (And.intro hr3 hk3)
            clear hr3 hk3
            go_wp2_with fail
            refine (peek_lt (unhide HR3).1 k z (by rw [(unhide HK).1]; exact Pl.nns_idem zs 0) (unhide HK).2.2 (unhide HK).2.1.symm).mono ?_
            rintro e w4 ⟨rfl, hr4, hk4⟩
            have hcell := unhide HC0 w4 hr4.text
            have HR4 := hide (And.intro hr4 hk4)
            clear hr4 hk4
            go_wp2_with fail
            refine (depth_rd (unhide HR4).1).mono ?_
            rintro e w4 ⟨rfl, rfl⟩
            go_wp2_with fail
            refine (pos_rd (unhide HR4).1).mono ?_
            rintro e w4 ⟨rfl, rfl⟩
            go_wp2_with fail
            go_ret
            exact ⟨rfl, (unhide HS).2.2.2.1.trans ((((unhide HR3).2.trans (unhide HR4).2).below (B := w1.heap.size) (fun _ h => h)).mono (unhide HS).2.2.2.2)⟩
          | false =>
            by_cases hz4 : z = 44
            · subst hz4
              go_wp2_with fail
              refine (more_comma cl (unhide HS).1 k (unhide HK).1.symm (unhide HK).2.2 (unhide HK).2.1.symm (unhide HZC) (by decide) (by decide)).mono ?_
              rintro e w3 ⟨rfl, hr3, hk3⟩
              have HR3 := hide (And.intro hr3 hk3)
              clear hr3 hk3
              by_cases hj : Pl.nns zs (k + 1) < zs.length
              · obtain ⟨m, hm⟩ : ∃ m, m = Pl.nns zs (k + 1) := ⟨_, rfl⟩
                obtain ⟨y, hy⟩ : ∃ y, y = zs.getD m 0 := ⟨_, rfl⟩
                rw [← hm] at hj
                have hml : m < len := by rw [unhide HL]; exact hj
                have hmne : ((m : Int) == (len : Int)) = false := beq_eq_false_iff_ne.2 (by omega)
                have HM := hide (And.intro hm (And.intro hy hj))
                clear hm hy hj
                go_wp2_with fail
                refine (peek_lt (unhide HR3).1 m y (unhide HM).1.symm (unhide HM).2.2 (unhide HM).2.1.symm).mono ?_
                rintro e w4 ⟨rfl, hr4, hk4⟩
                have hcell := unhide HC0 w4 hr4.text
                have hcell2 : w4.cell? ⟨d, m, none⟩ = some (.int .u8 y) := by rw [(hr4.text.at (unhide HM).2.2).2, (unhide HM).2.1]
                have HR4 := hide (And.intro hr4 hk4)
                clear hr4 hk4
                go_wp2_with fail
                refine (depth_rd (unhide HR4).1).mono ?_
                rintro e w4 ⟨rfl, rfl⟩
                go_wp2_with fail
                refine (pos_rd (unhide HR4).1).mono ?_
                rintro e w4 ⟨rfl, rfl⟩
                have hnext := next_text (i := k + 1) (unhide HR4).1.text hk1 (by have := unhide HLZ; omega)
                rw [show ((k + 1 : Nat) : Int) = (k : Int) + 1 by omega, ← (unhide HM).1] at hnext
                have HNX := hide hnext
                clear hnext
                go_wp2_with fail
                refine (unhide HNX).mono ?_
                rintro e w4 ⟨rfl, rfl⟩
                go_wp2_with fail
                go_ret
                exact ⟨rfl, (unhide HS).2.2.2.1.trans ((((unhide HR3).2.trans (unhide HR4).2).below (B := w1.heap.size) (fun _ h => h)).mono (unhide HS).2.2.2.2)⟩
              · have hje : Pl.nns zs (k + 1) = zs.length := by have := Pl.nns_le zs (k + 1) hk1; omega
                have hjl : Pl.nns zs (k + 1) = len := by rw [hje, unhide HL]
                have HM := hide (And.intro hje hjl)
                clear hje hjl hj
                go_wp2_with fail
                refine (peek_end (unhide HR3).1 (unhide HM).1).mono ?_
                rintro e w4 ⟨rfl, hr4, hk4⟩
                have hcell := unhide HC0 w4 hr4.text
                rw [← unhide HL] at hr4
                have HR4 := hide (And.intro hr4 hk4)
                clear hr4 hk4
                go_wp2_with fail
                refine (depth_rd (unhide HR4).1).mono ?_
                rintro e w4 ⟨rfl, rfl⟩
                go_wp2_with fail
                refine (pos_rd (unhide HR4).1).mono ?_
                rintro e w4 ⟨rfl, rfl⟩
                have hnext := next_text (i := k + 1) (unhide HR4).1.text hk1 (by have := unhide HLZ; omega)
                rw [show ((k + 1 : Nat) : Int) = (k : Int) + 1 by omega, (unhide HM).2] at hnext
                have HNX := hide hnext
                clear hnext
                go_wp2_with fail
                refine (unhide HNX).mono ?_
                rintro e w4 ⟨rfl, rfl⟩
                go_wp2_with fail
                go_ret
                exact ⟨rfl, (unhide HS).2.2.2.1.trans ((((unhide HR3).2.trans (unhide HR4).2).below (B := w1.heap.size) (fun _ h => h)).mono (unhide HS).2.2.2.2)⟩
            · have hz4b : (z == 44) = false := beq_eq_false_iff_ne.2 hz4
              have HZ4 := hide hz4
              clear hz4
              go_wp2_with fail
              refine (more_bad F (unhide HS).2.2.1 (unhide HS).2.1 cl (unhide HS).1 k z (unhide HK).1.symm (unhide HK).2.2 (unhide HK).2.1.symm (unhide HZC) (unhide HZ4)).mono ?_
              rintro e w3 ⟨eb, rfl, hr3, hk3⟩
              have HR3 := hide (And.intro hr3 hk3)
              clear hr3 hk3
              go_wp2_with fail
              refine (peek_lt (unhide HR3).1 k z (by rw [(unhide HK).1]; exact Pl.nns_idem zs 0) (unhide HK).2.2 (unhide HK).2.1.symm).mono ?_
              rintro e w4 ⟨rfl, hr4, hk4⟩
              have hcell := unhide HC0 w4 hr4.text
              have HR4 := hide (And.intro hr4 hk4)
              clear hr4 hk4
              go_wp2_with fail
              refine (depth_rd (unhide HR4).1).mono ?_
              rintro e w4 ⟨rfl, rfl⟩
              go_wp2_with fail
              refine (pos_rd (unhide HR4).1).mono ?_
              rintro e w4 ⟨rfl, rfl⟩
              go_wp2_with fail
              go_ret
              exact ⟨rfl, (unhide HS).2.2.2.1.trans ((((unhide HR3).2.trans (unhide HR4).2).below (B := w1.heap.size) (fun _ h => h)).mono (unhide HS).2.2.2.2)⟩
        · have hend : Pl.nns zs 0 = zs.length := by have := Pl.nns_le zs 0 (Nat.zero_le _); omega
          have hnl : Pl.nns zs 0 = len := by rw [hend, unhide HL]
          rw [hnl]
          have HE := hide (And.intro hend hnl)
          clear hend hnl hlt
          go_wp2_with fail
          refine (more_end cl first (unhide HS).1 (unhide HE).1).mono ?_
          rintro e w3 ⟨rfl, hr3, hk3⟩
          have HR3 := hide (And.intro hr3 hk3)
          clear hr3 hk3
          go_wp2_with fail
          refine (peek_end (unhide HR3).1 (Pl.nns_end zs _ (Nat.le_refl _))).mono ?_
          rintro e w4 ⟨rfl, hr4, hk4⟩
          rw [← unhide HL] at hr4
          have HR4 := hide (And.intro hr4 hk4)
          clear hr4 hk4
          go_wp2_with fail
          refine (depth_rd (unhide HR4).1).mono ?_
          rintro e w4 ⟨rfl, rfl⟩
          go_wp2_with fail
          refine (pos_rd (unhide HR4).1).mono ?_
          rintro e w4 ⟨rfl, rfl⟩
          go_wp2_with fail
          go_ret
          exact ⟨rfl, (unhide HS).2.2.2.1.trans ((((unhide HR3).2.trans (unhide HR4).2).below (B := w1.heap.size) (fun _ h => h)).mono (unhide HS).2.2.2.2)⟩
    · have h1 : (cl != 125) = true := bne_iff_ne.2 (by omega)
      have h2 : (cl != 93) = true := bne_iff_ne.2 (by omega)
      clear hcl
      go_enter Tryf.func8, Tryf.ntmps8
      go_wp2_with fail
      refine (bytes24_yes a len cap cl first w hbig).mono ?_
      rintro e w' ⟨rfl, rfl⟩
      go_wp2_with fail
      go_ret
      exact ⟨rfl, Below.refl _ _⟩
  · have HX := hide (bytes24_no a len cap cl first w (by omega) hcap)
    clear hin hG hH hF
    go_enter Tryf.func8, Tryf.ntmps8
    go_wp2_with fail
    refine (unhide HX).mono ?_
    rintro e w' ⟨rfl, rfl⟩
    go_wp2_with fail
    go_ret
    exact ⟨rfl, Below.refl _ _⟩
end Go.Proofs.Qxb6614003aFmt
