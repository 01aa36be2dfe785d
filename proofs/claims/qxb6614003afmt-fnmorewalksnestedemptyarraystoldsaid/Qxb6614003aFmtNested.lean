/-
  FnMoreWalksNestedEmptyArrays: the walk.
-/
import Derived.Test.Qxb6614003aFmtMore
import Derived.Test.Qxb6614003aFmtEnd
namespace Go.Proofs.Qxb6614003aFmt
open Go.RowKit Go.Extern.Stop Go.Stop Go.Extern
set_option linter.unusedVariables false

theorem bytes21_no (a : Option Addr) (len cap : Nat) (w : World) (h : (1048576 : Int) < len) (hc : len ≤ 9223372036854775807) :
    Calls Tryf.prog 21 #[.slice a len cap] w fun e w' => e = .returned (.bool false) ∧ w' = w := by
  go_enter Tryf.func21, Tryf.ntmps21
  go_wp2
  go_ret
  exact ⟨rfl, rfl⟩
theorem bytes21_yes (a : Option Addr) (len cap : Nat) (w : World) (h : (len : Int) ≤ 1048576) :
    Calls Tryf.prog 21 #[.slice a len cap] w fun e w' => e = .returned (.bool true) ∧ w' = w := by
  go_enter Tryf.func21, Tryf.ntmps21
  go_wp2
  go_ret
  exact ⟨rfl, rfl⟩

/-- What stood behind: an opening, or a closing. -/
def pv (first : Bool) : Int := if first then 91 else 93
theorem pv_93 (first : Bool) : Pl.fits (pv first) 93 = true := by cases first <;> decide

set_option maxRecDepth 100000 in
set_option maxHeartbeats 4000000 in
theorem nested_walk (F : Interp) (a : Option Addr) (len cap : Nat) (zs : List Int) (x0 x1 : Addr) (w : World) (hF : F.answers w.tape) (hin : In w a len cap zs) (hcap : len ≤ 9223372036854775807) (hG : Glob (fun k => k < w.heap.size) x0 x1 w) (hH : Hand (fun k => k < w.heap.size) w) :
    Calls Tryf.prog 7 #[.slice a len cap] w fun e w' => e = .returned (.bool true) ∧ Below w.heap.size w w' := by
  by_cases hbig : (len : Int) ≤ 1048576
  · have HL := hide hin.len
    have HI := hide hin
    have HG := hide hG
    have HH := hide hH
    have HF := hide hF
    clear hin hG hH hF
    obtain ⟨R, hR⟩ : ∃ R, R = Pl.E zs := ⟨_, rfl⟩
    have HR := hide hR
    clear hR
    go_enter Tryf.func7, Tryf.ntmps7
    go_wp2_with fail
    refine (bytes21_yes a len cap w hbig).mono ?_
    rintro e w' ⟨rfl, rfl⟩
    go_wp2_with fail
    refine (clone_any a len cap zs _ (unhide HI) (by omega) ((unhide HG).lim 0 (unhide HG).l0)).mono ?_
    rintro e w1 ⟨d, dv, rfl, ht, hd, hb1⟩
    obtain ⟨a1, hdv⟩ := ht.named (unhide HL)
    subst hdv
    have hlz : zs.length ≤ 100000000 := by have := unhide HL; omega
    have HT := hide (And.intro ht (And.intro hd (And.intro hb1 (And.intro (glob_up (unhide HG) hb1) hlz))))
    clear ht hd hb1 hlz
    go_wp2_with fail
    refine (emptyEnd_any d a1 len zs _ (unhide HT).1 (unhide HL) (by omega)).mono ?_
    rintro e w1 ⟨he, hw⟩
    rw [← unhide HR] at he
    subst he
    subst hw
    go_wp2_with fail
    refine (newReader_rd d _ zs x0 x1 _ (unhide HT).2.2.2.1 (unhide HT).1 (unhide HT).2.1 (unhide HT).2.2.2.2).mono ?_
    rintro e w2 ⟨rfl, hb2, hr⟩
    have hb0 : Below w'.heap.size w' w2 := (unhide HT).2.2.1.trans (hb2.mono (unhide HT).2.2.1.size)
    have hH2 : Hand (fun k => k < w1.heap.size) w2 := ⟨Nat.lt_of_lt_of_le (unhide HH).l3 (unhide HT).2.2.1.size, (hb0.cell (unhide HH).l3).trans (unhide HH).g3⟩
    have hF2 : F.answers w2.tape := by rw [hb0.tape]; exact unhide HF
    have HS := hide (And.intro hr (And.intro hH2 (And.intro hF2 (And.intro hb0 (unhide HT).2.2.1.size))))
    have HLZ := hide (unhide HT).2.2.2.2
    have hfin : ∀ wx : World, Keep (fun k => k < w1.heap.size) w2 wx → Below w'.heap.size w' wx := fun wx hk => hb0.trans ((hk.below (B := w1.heap.size) (fun _ h => h)).mono (unhide HT).2.2.1.size)
    have HFIN := hide hfin
    clear hr hH2 hF2 hb0 hb2 HT HH HF HI HG hfin
    by_cases hlt : Pl.nns zs 0 < zs.length
    · obtain ⟨k, hk⟩ : ∃ k, k = Pl.nns zs 0 := ⟨_, rfl⟩
      obtain ⟨z, hz⟩ : ∃ z, z = zs.getD k 0 := ⟨_, rfl⟩
      rw [← hk] at hlt
      have hkl : k < len := by rw [unhide HL]; exact hlt
      have HK := hide (And.intro hk (And.intro hz hlt))
      clear hk hz hlt
      by_cases hz9 : z = 91
      · subst hz9
        have hG : R = Pl.G zs (k + 1) 1 (pv true) := by
          obtain ⟨h1, h2, h3⟩ := unhide HK
          rw [unhide HR, Pl.E_open zs (by rw [← h1]; exact h3) (by rw [← h1]; exact h2.symm), ← h1]; rfl
        have HGR := hide hG
        clear hG
        go_wp2_with fail
        refine (delim_good 91 (unhide HS).1 k (unhide HK).1.symm (unhide HK).2.2 (unhide HK).2.1.symm (by decide) (by decide)).mono ?_
        rintro e w3 ⟨rfl, hr3, hk3⟩
        rw [show (0 : Int) + dd 91 = ((1 : Nat) : Int) by decide] at hr3
        have HR3 := hide (And.intro hr3 hk3)
        clear hr3 hk3
        go_wp2_with fail
        go_loopg [6, 7, 8, 9] (len + 1) (fun g ov dpv fv kv wr => ∃ (dep p kk : Nat) (first : Bool), ov = .bool false ∧ dpv = .int .i64 dep ∧ fv = .bool first ∧ kv = .int .i64 kk ∧ 1 ≤ dep ∧ dep ≤ p ∧ kk + 1 ≤ p ∧ p ≤ len ∧ R = Pl.G zs p dep (pv first) ∧ len - p < g ∧
          Rd (fun k => k < w1.heap.size) (w1.heap.size + 1) w1.heap.size d (.slice a1 len len) zs x0 x1 (dep : Int) p wr ∧ Keep (fun k => k < w1.heap.size) w2 wr)
        case atStart => exact ⟨1, k + 1, 0, true, rfl, rfl, rfl, rfl, by omega, by omega, by omega, by omega, unhide HGR, by omega, (unhide HR3).1, (unhide HR3).2⟩
        case round =>
          obtain ⟨dep, p, kk, first, rfl, rfl, rfl, rfl, hd1, hd2, hkk, hpl, hG, hgk, hr, hkp⟩ := hrel
          have hpl' : p ≤ zs.length := by rw [← unhide HL]; exact hpl
          have hkle : (kk : Int) ≤ (len : Int) := by omega
          have hHr := (unhide HS).2.1.keep hkp
          have hFr : F.answers wr.tape := by rw [hkp.tape]; exact (unhide HS).2.2.1
          obtain ⟨i, hi⟩ : ∃ i, i = Pl.nns zs p := ⟨_, rfl⟩
          have hge := Pl.nns_ge zs p
          have hle := Pl.nns_le zs p hpl'
          rw [← hi] at hge hle
          have hle' : i ≤ len := by rw [unhide HL]; exact hle
          have HRR := hide (And.intro hr (And.intro hkp (And.intro hHr hFr)))
          have HGI := hide hG
          have HII := hide hi
          have hdl : (dep : Int) ≤ 1048577 := by omega
          clear hr hkp hHr hFr hG hi hpl'
          by_cases hilt : i < zs.length
          · obtain ⟨c, hc⟩ : ∃ c, c = zs.getD i 0 := ⟨_, rfl⟩
            have hil : i < len := by rw [unhide HL]; exact hilt
            have HM := hide (And.intro hilt hc)
            clear hilt hc hle
            by_cases e93 : c = 93
            · subst e93
              go_wp2_with fail
              refine (more_close 93 first (unhide HRR).1 i (unhide HII).symm (unhide HM).1 (unhide HM).2.symm (by omega) (by omega)).mono ?_
              rintro e w3 ⟨rfl, hr3, hk3⟩
              have HR3 := hide (And.intro hr3 hk3)
              clear hr3 hk3
              go_wp2_with fail
              refine (depth_rd (unhide HR3).1).mono ?_
              rintro e w3 ⟨rfl, rfl⟩
              by_cases hdep : dep = 1
              · subst hdep
                have hRs : R = some (i + 1) := (unhide HGI).trans (Pl.G_close1 (unhide HII).symm (unhide HM).1 (unhide HM).2.symm (pv_93 first))
                subst hRs
                have hpr := pos_rd (unhide HR3).1
                have HPR := hide hpr
                clear hpr
                go_wp2_with fail
                refine (unhide HPR).mono ?_
                rintro e w3 ⟨rfl, rfl⟩
                go_wp2_with fail
                go_ret
                exact ⟨rfl, unhide HFIN _ ((unhide HRR).2.1.trans (unhide HR3).2)⟩
              · have hdne : ((dep : Int) - 1 == 0) = false := beq_eq_false_iff_ne.2 (by omega)
                have HG2 := hide ((unhide HGI).trans (Pl.G_close (unhide HII).symm (unhide HM).1 (unhide HM).2.symm (pv_93 first) hdep))
                go_wp2_with fail
                go_roundg (len - (i + 1) + 1)
                case measure => omega
                case rel => exact ⟨dep - 1, i + 1, kk + 1, false, rfl, num_sub (by omega), rfl, by go_num, by omega, by omega, by omega, by omega, unhide HG2, by omega, by rw [show ((dep - 1 : Nat) : Int) = (dep : Int) - 1 by omega]; exact (unhide HR3).1, (unhide HRR).2.1.trans (unhide HR3).2⟩
            have HE93 := hide e93
            clear e93
            cases first with
            | true =>
              go_wp2_with fail
              refine (more_first 93 (unhide HRR).1 i c (unhide HII).symm (unhide HM).1 (unhide HM).2.symm (unhide HE93)).mono ?_
              rintro e w3 ⟨rfl, hr3, hk3⟩
              have HR3 := hide (And.intro hr3 hk3)
              clear hr3 hk3
              have HID := hide (show Pl.nns zs i = i by rw [unhide HII]; exact Pl.nns_idem zs p)
              by_cases e91 : c = 91
              · subst e91
                have HG2 := hide ((unhide HGI).trans (Pl.G_open (unhide HII).symm (unhide HM).1 (unhide HM).2.symm Pl.fits_91_91))
                go_wp2_with fail
                refine (delim_good 91 (unhide HR3).1 i (unhide HID) (unhide HM).1 (unhide HM).2.symm (by omega) (by omega)).mono ?_
                rintro e w4 ⟨rfl, hr4, hk4⟩
                rw [show (dep : Int) + dd 91 = (dep : Int) + 1 from rfl] at hr4
                have HR4 := hide (And.intro hr4 hk4)
                clear hr4 hk4
                go_wp2_with fail
                refine (depth_rd (unhide HR4).1).mono ?_
                rintro e w4 ⟨rfl, rfl⟩
                go_wp2_with fail
                go_roundg (len - (i + 1) + 1)
                case measure => omega
                case rel => exact ⟨dep + 1, i + 1, kk + 1, true, rfl, by go_num, rfl, by go_num, by omega, by omega, by omega, by omega, unhide HG2, by omega, by rw [show ((dep + 1 : Nat) : Int) = (dep : Int) + 1 by omega]; exact (unhide HR4).1, ((unhide HRR).2.1.trans (unhide HR3).2).trans (unhide HR4).2⟩
              · go_wp2_with fail
                refine (delim_bad 91 F (by rw [(unhide HR3).2.tape]; exact (unhide HRR).2.2.2) ((unhide HRR).2.2.1.keep (unhide HR3).2) (unhide HR3).1 i c (unhide HID) (unhide HM).1 (unhide HM).2.symm e91).mono ?_
                rintro e w4 ⟨eb, rfl, hr4, hk4⟩
                have HR4 := hide hk4
                clear hr4 hk4
                have hRn : R = none := (unhide HGI).trans (Pl.G_unfit (unhide HII).symm (unhide HM).1 (unhide HM).2.symm (Pl.fits_91 e91 (unhide HE93)))
                subst hRn
                go_wp2_with fail
                go_ret
                exact ⟨rfl, unhide HFIN _ (((unhide HRR).2.1.trans (unhide HR3).2).trans (unhide HR4))⟩
            | false =>
              by_cases e44 : c = 44
              · subst e44
                have HG2 := hide ((unhide HGI).trans (Pl.G_comma (unhide HII).symm (unhide HM).1 (unhide HM).2.symm Pl.fits_93_44))
                go_wp2_with fail
                refine (more_comma 93 (unhide HRR).1 i (unhide HII).symm (unhide HM).1 (unhide HM).2.symm (by decide) (by omega) (by omega)).mono ?_
                rintro e w3 ⟨rfl, hr3, hk3⟩
                have HR3 := hide (And.intro hr3 hk3)
                clear hr3 hk3
                obtain ⟨j, hj⟩ : ∃ j, j = Pl.nns zs (i + 1) := ⟨_, rfl⟩
                have hjge := Pl.nns_ge zs (i + 1)
                have hjle := Pl.nns_le zs (i + 1) (unhide HM).1
                rw [← hj] at hjge hjle
                have hjle' : j ≤ len := by rw [unhide HL]; exact hjle
                have HJ := hide hj
                clear hj
                by_cases hjlt : j < zs.length
                · obtain ⟨y, hy⟩ : ∃ y, y = zs.getD j 0 := ⟨_, rfl⟩
                  have hjl : j < len := by rw [unhide HL]; exact hjlt
                  have HY := hide (And.intro hjlt hy)
                  clear hjlt hy hjle
                  by_cases e91 : y = 91
                  · subst e91
                    have HG3 := hide ((unhide HG2).trans (Pl.G_open (unhide HJ).symm (unhide HY).1 (unhide HY).2.symm Pl.fits_44_91))
                    go_wp2_with fail
                    refine (delim_good 91 (unhide HR3).1 j (unhide HJ).symm (unhide HY).1 (unhide HY).2.symm (by omega) (by omega)).mono ?_
                    rintro e w4 ⟨rfl, hr4, hk4⟩
                    rw [show (dep : Int) + dd 91 = (dep : Int) + 1 from rfl] at hr4
                    have HR4 := hide (And.intro hr4 hk4)
                    clear hr4 hk4
                    go_wp2_with fail
                    refine (depth_rd (unhide HR4).1).mono ?_
                    rintro e w4 ⟨rfl, rfl⟩
                    go_wp2_with fail
                    go_roundg (len - (j + 1) + 1)
                    case measure => omega
                    case rel => exact ⟨dep + 1, j + 1, kk + 1, true, rfl, by go_num, rfl, by go_num, by omega, by omega, by omega, by omega, unhide HG3, by omega, by rw [show ((dep + 1 : Nat) : Int) = (dep : Int) + 1 by omega]; exact (unhide HR4).1, ((unhide HRR).2.1.trans (unhide HR3).2).trans (unhide HR4).2⟩
                  · go_wp2_with fail
                    refine (delim_bad 91 F (by rw [(unhide HR3).2.tape]; exact (unhide HRR).2.2.2) ((unhide HRR).2.2.1.keep (unhide HR3).2) (unhide HR3).1 j y (unhide HJ).symm (unhide HY).1 (unhide HY).2.symm e91).mono ?_
                    rintro e w4 ⟨eb, rfl, hr4, hk4⟩
                    have HR4 := hide hk4
                    clear hr4 hk4
                    have hRn : R = none := (unhide HG2).trans (Pl.G_unfit (unhide HJ).symm (unhide HY).1 (unhide HY).2.symm (Pl.fits_44 e91))
                    subst hRn
                    go_wp2_with fail
                    go_ret
                    exact ⟨rfl, unhide HFIN _ (((unhide HRR).2.1.trans (unhide HR3).2).trans (unhide HR4))⟩
                · have hje : Pl.nns zs (i + 1) = zs.length := by rw [← unhide HJ]; omega
                  have HJE := hide hje
                  clear hje hjlt hjle
                  go_wp2_with fail
                  refine (delim_end 91 (unhide HR3).1 (unhide HJE)).mono ?_
                  rintro e w4 ⟨rfl, hr4, hk4⟩
                  have HR4 := hide hk4
                  clear hr4 hk4
                  have hRn : R = none := (unhide HG2).trans (Pl.G_end (unhide HJE))
                  subst hRn
                  go_wp2_with fail
                  go_ret
                  exact ⟨rfl, unhide HFIN _ (((unhide HRR).2.1.trans (unhide HR3).2).trans (unhide HR4))⟩
              · go_wp2_with fail
                refine (more_bad F (unhide HRR).2.2.2 (unhide HRR).2.2.1 93 (unhide HRR).1 i c (unhide HII).symm (unhide HM).1 (unhide HM).2.symm (unhide HE93) e44).mono ?_
                rintro e w3 ⟨eb, rfl, hr3, hk3⟩
                have HR3 := hide hk3
                clear hr3 hk3
                have hRn : R = none := (unhide HGI).trans (Pl.G_unfit (unhide HII).symm (unhide HM).1 (unhide HM).2.symm (Pl.fits_93 e44 (unhide HE93)))
                subst hRn
                go_wp2_with fail
                go_ret
                exact ⟨rfl, unhide HFIN _ ((unhide HRR).2.1.trans (unhide HR3))⟩
          · have hie : Pl.nns zs p = zs.length := by rw [← unhide HII]; omega
            have HIE := hide hie
            clear hie hilt hle
            go_wp2_with fail
            refine (more_end 93 first (unhide HRR).1 (unhide HIE)).mono ?_
            rintro e w3 ⟨rfl, hr3, hk3⟩
            have HR3 := hide hk3
            clear hr3 hk3
            have hRn : R = none := (unhide HGI).trans (Pl.G_end (unhide HIE))
            subst hRn
            go_wp2_with fail
            go_ret
            exact ⟨rfl, unhide HFIN _ ((unhide HRR).2.1.trans (unhide HR3))⟩
      · have hRn : R = none := (unhide HR).trans (Pl.E_other zs (by rw [← (unhide HK).1, ← (unhide HK).2.1]; exact hz9))
        subst hRn
        go_wp2_with fail
        refine (delim_bad 91 F (unhide HS).2.2.1 (unhide HS).2.1 (unhide HS).1 k z (unhide HK).1.symm (unhide HK).2.2 (unhide HK).2.1.symm hz9).mono ?_
        rintro e w3 ⟨eb, rfl, hr3, hk3⟩
        have HR3 := hide hk3
        clear hr3 hk3
        go_wp2_with fail
        go_ret
        exact ⟨rfl, unhide HFIN _ (unhide HR3)⟩
    · have hend : Pl.nns zs 0 = zs.length := by have := Pl.nns_le zs 0 (Nat.zero_le _); omega
      have hRn : R = none := (unhide HR).trans (Pl.E_none zs hend)
      have HE := hide hend
      clear hend hlt
      subst hRn
      go_wp2_with fail
      refine (delim_end 91 (unhide HS).1 (unhide HE)).mono ?_
      rintro e w3 ⟨rfl, hr3, hk3⟩
      have HR3 := hide hk3
      clear hr3 hk3
      go_wp2_with fail
      go_ret
      exact ⟨rfl, unhide HFIN _ (unhide HR3)⟩
  · have HX := hide (bytes21_no a len cap w (by omega) hcap)
    clear hin hG hH hF
    go_enter Tryf.func7, Tryf.ntmps7
    go_wp2_with fail
    refine (unhide HX).mono ?_
    rintro e w' ⟨rfl, rfl⟩
    go_wp2_with fail
    go_ret
    exact ⟨rfl, Below.refl _ _⟩
end Go.Proofs.Qxb6614003aFmt
