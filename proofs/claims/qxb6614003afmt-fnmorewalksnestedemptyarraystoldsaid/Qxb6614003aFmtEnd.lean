/-
  jpEmptyArraysEnd.
-/
import Derived.Test.Qxb6614003aFmtRefuse
import Derived.Test.Qxb6614003aFmtNest
import Derived.Deep.LoopGhost
namespace Go.Proofs.Qxb6614003aFmt
open Go.RowKit
set_option linter.unusedVariables false

theorem ret_pair {a : Bool} {n : Int} {R : Option Nat} (h1 : a = R.isSome) (h2 : n = ((R.getD 0 : Nat) : Int)) : Ending.returned (.tuple #[.bool a, .int .i64 n]) = .returned (.tuple #[.bool R.isSome, .int .i64 ((R.getD 0 : Nat) : Int)]) := by rw [h1, h2]

theorem num_sub {d : Nat} (h : 1 ≤ d) : Value.int .i64 ((d : Int) - 1) = .int .i64 ((d - 1 : Nat) : Int) := by rw [show ((d - 1 : Nat) : Int) = (d : Int) - 1 by omega]

set_option maxRecDepth 100000 in
set_option maxHeartbeats 2000000 in
theorem emptyEnd_any (d : Nat) (a : Option Addr) (len : Nat) (zs : List Int) (w : World) (ht : Text w d (.slice a len len) zs) (hlen : len = zs.length) (hl : len ≤ 1048576) :
    Calls Tryf.prog 22 #[.slice a len len] w fun e w' => e = .returned (.tuple #[.bool (Pl.E zs).isSome, .int .i64 (((Pl.E zs).getD 0 : Nat) : Int)]) ∧ w' = w := by
  obtain ⟨R, hR⟩ : ∃ R, R = Pl.E zs := ⟨_, rfl⟩
  rw [← hR]
  have HT := hide ht
  have HL := hide hlen
  have HR := hide hR
  clear ht hlen hR
  have HN := hide (fun (i : Nat) (hi : i ≤ zs.length) => next_text (i := i) (unhide HT) hi (by have := unhide HL; omega))
  by_cases hlt : Pl.nns zs 0 < zs.length
  · obtain ⟨k, hk⟩ : ∃ k, k = Pl.nns zs 0 := ⟨_, rfl⟩
    obtain ⟨z, hz⟩ : ∃ z, z = zs.getD k 0 := ⟨_, rfl⟩
    rw [← hk] at hlt
    obtain ⟨ha, hc0⟩ := (unhide HT).at hlt
    rw [← hz] at hc0
    subst ha
    have hkl : k < len := by rw [unhide HL]; exact hlt
    have hkne : ((k : Int) == (len : Int)) = false := beq_eq_false_iff_ne.2 (by omega)
    have HK := hide (And.intro hk (And.intro hz hlt))
    clear hk hz hlt
    by_cases hz9 : z = 91
    · subst hz9
      have hG : R = Pl.G zs (k + 1) 1 91 := by
        obtain ⟨h1, h2, h3⟩ := unhide HK
        rw [unhide HR, Pl.E_open zs (by rw [← h1]; exact h3) (by rw [← h1]; exact h2.symm), ← h1]
      have HGR := hide hG
      clear hG
      go_enter Tryf.func22, Tryf.ntmps22
      go_wp2_with fail
      refine (unhide HN 0 (Nat.zero_le _)).mono ?_
      rintro e w1 ⟨he, hw⟩
      rw [← (unhide HK).1] at he
      subst he
      subst hw
      go_wp2_with fail
      go_loopg [4, 5, 6] (len + 1) (fun g iv dv pv wr => ∃ (i dep : Nat) (prev : Int), iv = .int .i64 i ∧ dv = .int .i64 dep ∧ pv = .int .u8 prev ∧ i < len ∧ 1 ≤ dep ∧ dep ≤ i + 1 ∧ (prev = 91 ∨ prev = 93 ∨ prev = 44) ∧ R = Pl.G zs (i + 1) dep prev ∧ len - i < g ∧ wr = w1)
      case atStart => exact ⟨k, 1, 91, rfl, rfl, rfl, hkl, by omega, by omega, .inl rfl, unhide HGR, by omega, rfl⟩
      case round =>
        obtain ⟨i, dep, prev, rfl, rfl, rfl, hil, hd1, hd2, hprev, hG, hgk, rfl⟩ := hrel
        obtain ⟨m, hm⟩ : ∃ m, m = Pl.nns zs (i + 1) := ⟨_, rfl⟩
        have hil' : i + 1 ≤ zs.length := by rw [← unhide HL]; exact hil
        have hnx := unhide HN (i + 1) hil'
        rw [← hm, show ((i + 1 : Nat) : Int) = (i : Int) + 1 by omega] at hnx
        have HNX := hide hnx
        have HGI := hide hG
        have hmg := Pl.nns_ge zs (i + 1)
        have hmle := Pl.nns_le zs (i + 1) hil'
        rw [← hm] at hmg hmle
        clear hnx hG
        by_cases hml' : m < zs.length
        · obtain ⟨y, hy⟩ : ∃ y, y = zs.getD m 0 := ⟨_, rfl⟩
          obtain ⟨_, hcm⟩ := (unhide HT).at hml'
          rw [← hy] at hcm
          have hml : m < len := by rw [unhide HL]; exact hml'
          have hmne : ((m : Int) == (len : Int)) = false := beq_eq_false_iff_ne.2 (by omega)
          have HM := hide (And.intro hm (And.intro hy hml'))
          clear hm hy hml' hmle hil'
          rcases hprev with rfl | rfl | rfl
          · by_cases e1 : y = 91
            · have hz9 : y = 91 := e1
              subst hz9
              have HRN := hide ((unhide HGI).trans (Pl.G_open (unhide HM).1.symm (unhide HM).2.2 (unhide HM).2.1.symm Pl.fits_91_91))
              go_wp2_with fail
              refine (unhide HNX).mono ?_
              rintro e w1 ⟨rfl, rfl⟩
              go_wp2_with fail
              go_roundg (len - m + 1)
              case measure => have := unhide HM; omega
              case rel => exact ⟨m, dep + 1, 91, rfl, by go_num, rfl, hml, by omega, by omega, .inl rfl, unhide HRN, by omega, rfl⟩
            by_cases e2 : y = 93
            · have hz9 : y = 93 := e2
              subst hz9
              by_cases hd : dep = 1
              · subst hd
                have HRN := hide ((unhide HGI).trans (Pl.G_close1 (unhide HM).1.symm (unhide HM).2.2 (unhide HM).2.1.symm Pl.fits_91_93))
                go_wp2_with fail
                refine (unhide HNX).mono ?_
                rintro e w1 ⟨rfl, rfl⟩
                go_wp2_with fail
                go_ret2
                exact ⟨ret_pair (by rw [unhide HRN]; rfl) (by rw [unhide HRN]; show (m : Int) + 1 = ((m + 1 : Nat) : Int); omega), rfl⟩
              · have HRN := hide ((unhide HGI).trans (Pl.G_close (unhide HM).1.symm (unhide HM).2.2 (unhide HM).2.1.symm Pl.fits_91_93 hd))
                have hdne : ((dep : Int) - 1 == 0) = false := beq_eq_false_iff_ne.2 (by omega)
                go_wp2_with fail
                refine (unhide HNX).mono ?_
                rintro e w1 ⟨rfl, rfl⟩
                go_wp2_with fail
                go_roundg (len - m + 1)
                case measure => have := unhide HM; omega
                case rel => exact ⟨m, dep - 1, 93, rfl, num_sub (by omega), rfl, hml, by omega, by omega, .inr (.inl rfl), unhide HRN, by omega, rfl⟩
            have g1 : (y == 91) = false := beq_eq_false_iff_ne.2 e1
            have g2 : (y == 93) = false := beq_eq_false_iff_ne.2 e2
            have HRN := hide ((unhide HGI).trans (Pl.G_unfit (unhide HM).1.symm (unhide HM).2.2 (unhide HM).2.1.symm (Pl.fits_91 e1 e2)))
            go_wp2_with fail
            refine (unhide HNX).mono ?_
            rintro e w1 ⟨rfl, rfl⟩
            go_wp2_with fail
            go_ret2
            exact ⟨ret_pair (by rw [unhide HRN]; rfl) (by rw [unhide HRN]; rfl), rfl⟩
          · by_cases e1 : y = 44
            · have hz9 : y = 44 := e1
              subst hz9
              have HRN := hide ((unhide HGI).trans (Pl.G_comma (unhide HM).1.symm (unhide HM).2.2 (unhide HM).2.1.symm Pl.fits_93_44))
              go_wp2_with fail
              refine (unhide HNX).mono ?_
              rintro e w1 ⟨rfl, rfl⟩
              go_wp2_with fail
              go_roundg (len - m + 1)
              case measure => have := unhide HM; omega
              case rel => exact ⟨m, dep, 44, rfl, rfl, rfl, hml, by omega, by omega, .inr (.inr rfl), unhide HRN, by omega, rfl⟩
            by_cases e2 : y = 93
            · have hz9 : y = 93 := e2
              subst hz9
              by_cases hd : dep = 1
              · subst hd
                have HRN := hide ((unhide HGI).trans (Pl.G_close1 (unhide HM).1.symm (unhide HM).2.2 (unhide HM).2.1.symm Pl.fits_93_93))
                go_wp2_with fail
                refine (unhide HNX).mono ?_
                rintro e w1 ⟨rfl, rfl⟩
                go_wp2_with fail
                go_ret2
                exact ⟨ret_pair (by rw [unhide HRN]; rfl) (by rw [unhide HRN]; show (m : Int) + 1 = ((m + 1 : Nat) : Int); omega), rfl⟩
              · have HRN := hide ((unhide HGI).trans (Pl.G_close (unhide HM).1.symm (unhide HM).2.2 (unhide HM).2.1.symm Pl.fits_93_93 hd))
                have hdne : ((dep : Int) - 1 == 0) = false := beq_eq_false_iff_ne.2 (by omega)
                go_wp2_with fail
                refine (unhide HNX).mono ?_
                rintro e w1 ⟨rfl, rfl⟩
                go_wp2_with fail
                go_roundg (len - m + 1)
                case measure => have := unhide HM; omega
                case rel => exact ⟨m, dep - 1, 93, rfl, num_sub (by omega), rfl, hml, by omega, by omega, .inr (.inl rfl), unhide HRN, by omega, rfl⟩
            have g1 : (y == 44) = false := beq_eq_false_iff_ne.2 e1
            have g2 : (y == 93) = false := beq_eq_false_iff_ne.2 e2
            have HRN := hide ((unhide HGI).trans (Pl.G_unfit (unhide HM).1.symm (unhide HM).2.2 (unhide HM).2.1.symm (Pl.fits_93 e1 e2)))
            go_wp2_with fail
            refine (unhide HNX).mono ?_
            rintro e w1 ⟨rfl, rfl⟩
            go_wp2_with fail
            go_ret2
            exact ⟨ret_pair (by rw [unhide HRN]; rfl) (by rw [unhide HRN]; rfl), rfl⟩
          · by_cases e1 : y = 91
            · have hz9 : y = 91 := e1
              subst hz9
              have HRN := hide ((unhide HGI).trans (Pl.G_open (unhide HM).1.symm (unhide HM).2.2 (unhide HM).2.1.symm Pl.fits_44_91))
              go_wp2_with fail
              refine (unhide HNX).mono ?_
              rintro e w1 ⟨rfl, rfl⟩
              go_wp2_with fail
              go_roundg (len - m + 1)
              case measure => have := unhide HM; omega
              case rel => exact ⟨m, dep + 1, 91, rfl, by go_num, rfl, hml, by omega, by omega, .inl rfl, unhide HRN, by omega, rfl⟩
            have g1 : (y == 91) = false := beq_eq_false_iff_ne.2 e1
            have HRN := hide ((unhide HGI).trans (Pl.G_unfit (unhide HM).1.symm (unhide HM).2.2 (unhide HM).2.1.symm (Pl.fits_44 e1)))
            go_wp2_with fail
            refine (unhide HNX).mono ?_
            rintro e w1 ⟨rfl, rfl⟩
            go_wp2_with fail
            go_ret2
            exact ⟨ret_pair (by rw [unhide HRN]; rfl) (by rw [unhide HRN]; rfl), rfl⟩
        · have hme : m = zs.length := by omega
          have hmlen : m = len := by rw [hme, unhide HL]
          have HRN := hide ((unhide HGI).trans (Pl.G_end (by rw [← hm]; exact hme)))
          have hmeq : ((m : Int) == (len : Int)) = true := beq_iff_eq.2 (by omega)
          clear hm hml' hme hmlen hmg hmle
          go_wp2_with fail
          refine (unhide HNX).mono ?_
          rintro e w1 ⟨rfl, rfl⟩
          go_wp2_with fail
          go_ret2
          exact ⟨ret_pair (by rw [unhide HRN]; rfl) (by rw [unhide HRN]; rfl), rfl⟩
    · have HRN := hide ((unhide HR).trans (Pl.E_other zs (by rw [← (unhide HK).1, ← (unhide HK).2.1]; exact hz9)))
      have hzb : (z != 91) = true := bne_iff_ne.2 hz9
      clear hz9
      go_enter Tryf.func22, Tryf.ntmps22
      go_wp2_with fail
      refine (unhide HN 0 (Nat.zero_le _)).mono ?_
      rintro e w1 ⟨he, hw⟩
      rw [← (unhide HK).1] at he
      subst he
      subst hw
      go_wp2_with fail
      go_ret2
      exact ⟨ret_pair (by rw [unhide HRN]; rfl) (by rw [unhide HRN]; rfl), rfl⟩
  · have hend : Pl.nns zs 0 = zs.length := by have := Pl.nns_le zs 0 (Nat.zero_le _); omega
    have HRN := hide ((unhide HR).trans (Pl.E_none zs hend))
    have hnl : Pl.nns zs 0 = len := by rw [hend, unhide HL]
    have HE := hide hnl
    clear hend hnl hlt
    go_enter Tryf.func22, Tryf.ntmps22
    go_wp2_with fail
    refine (unhide HN 0 (Nat.zero_le _)).mono ?_
    rintro e w1 ⟨he, hw⟩
    rw [unhide HE] at he
    subst he
    subst hw
    go_wp2_with fail
    go_ret2
    exact ⟨ret_pair (by rw [unhide HRN]; rfl) (by rw [unhide HRN]; rfl), rfl⟩
end Go.Proofs.Qxb6614003aFmt
