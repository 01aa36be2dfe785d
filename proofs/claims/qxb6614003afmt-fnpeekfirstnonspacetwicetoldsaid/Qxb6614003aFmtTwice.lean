/-
  FnPeekFirstNonSpaceTwice: the walk.
-/
import Derived.Test.Qxb6614003aFmtCommon
namespace Go.Proofs.Qxb6614003aFmt
open Go.RowKit
set_option linter.unusedVariables false

theorem bytes9_no (a : Option Addr) (len cap : Nat) (w : World) (h : (1048576 : Int) < len) (hc : len ≤ 9223372036854775807) :
    Calls Tryf.prog 9 #[.slice a len cap] w fun e w' => e = .returned (.bool false) ∧ w' = w := by
  go_enter Tryf.func9, Tryf.ntmps9
  go_wp2
  go_ret
  exact ⟨rfl, rfl⟩
theorem bytes9_yes (a : Option Addr) (len cap : Nat) (w : World) (h : (len : Int) ≤ 1048576) :
    Calls Tryf.prog 9 #[.slice a len cap] w fun e w' => e = .returned (.bool true) ∧ w' = w := by
  go_enter Tryf.func9, Tryf.ntmps9
  go_wp2
  go_ret
  exact ⟨rfl, rfl⟩

set_option maxRecDepth 100000 in
set_option maxHeartbeats 1000000 in
theorem twice_walk (a : Option Addr) (len cap : Nat) (zs : List Int) (x0 x1 : Addr) (w : World) (hin : In w a len cap zs) (hcap : len ≤ 9223372036854775807) (hG : Glob w.heap.size x0 x1 w) :
    Calls Tryf.prog 3 #[.slice a len cap] w fun e w' => e = .returned (.bool true) ∧ Below w.heap.size w w' := by
  by_cases hbig : (len : Int) ≤ 1048576
  · have hlen := hin.len
    have HI := hide hin
    have HG := hide hG
    have HL := hide hlen
    clear hin hG hlen
    go_enter Tryf.func3, Tryf.ntmps3
    go_wp2_with fail
    refine (bytes9_yes a len cap w hbig).mono ?_
    rintro e w' ⟨rfl, rfl⟩
    go_wp2_with fail
    refine (clone_any a len cap zs _ (unhide HI) (by omega) (by have := (unhide HG).two; omega)).mono ?_
    rintro e w1 ⟨d, dv, rfl, ht, hd, hb1⟩
    have hl := unhide HL
    have hlz : zs.length ≤ 100000000 := by omega
    have hG1 := ((unhide HG).below hb1).mono hb1.size
    obtain ⟨a', hdv, hn', hd', hc'⟩ := ht.slice
    subst hdv
    have HT := hide ht
    have HG1 := hide hG1
    have HB1 := hide hb1
    have HD := hide hd
    have HC := hide (And.intro hn' (And.intro hd' hc'))
    clear ht hG1 hb1 hd hn' hd' hc' hl
    go_wp2_with fail
    refine (next_text (i := 0) (unhide HT) (Nat.zero_le _) (by omega)).mono ?_
    rintro e w1 ⟨rfl, rfl⟩
    go_wp2_with fail
    refine (newReader_rd d _ zs x0 x1 _ (unhide HG1) (unhide HT) (unhide HD) hlz).mono ?_
    rintro e w2 ⟨rfl, hb2, hs2, hr2⟩
    have HR := hide hr2
    have HB2 := hide hb2
    clear hb2 hr2 hs2
    by_cases hlt : Pl.nns zs 0 < zs.length
    · obtain ⟨k, hk⟩ : ∃ k, k = Pl.nns zs 0 := ⟨_, rfl⟩
      obtain ⟨z, hz⟩ : ∃ z, z = zs.getD k 0 := ⟨_, rfl⟩
      rw [← hk] at hlt ⊢
      have HK := hide (And.intro hk hz)
      clear hk hz
      have ha' : a' = some ⟨d, 0, none⟩ := by
        obtain ⟨h1, h2, _⟩ := unhide HC
        cases a' with
        | none => rw [h1 rfl] at hlt; simp at hlt
        | some b => rw [h2 b rfl]
      subst ha'
      have hne : ((k : Int) == (zs.length : Int)) = false := beq_eq_false_iff_ne.2 (by omega)
      go_wp2_with fail
      refine (peek_lt (unhide HR) k z (unhide HK).1.symm hlt (unhide HK).2.symm).mono ?_
      rintro e w3 ⟨rfl, hr3, hb3⟩
      have HR3 := hide hr3
      have HB3 := hide hb3
      clear hr3 hb3
      go_wp2_with fail
      refine (pos_rd (unhide HR3)).mono ?_
      rintro e w3 ⟨rfl, rfl⟩
      go_wp2_with fail
      refine (peek_lt (unhide HR3) k z (by rw [(unhide HK).1]; exact Pl.nns_idem zs 0) hlt (unhide HK).2.symm).mono ?_
      rintro e w4 ⟨rfl, hr4, hb4⟩
      have HR4 := hide hr4
      have HB4 := hide hb4
      clear hr4 hb4
      go_wp2_with fail
      refine (pos_rd (unhide HR4)).mono ?_
      rintro e w4 ⟨rfl, rfl⟩
      go_wp2_with fail
      refine (depth_rd (unhide HR4)).mono ?_
      rintro e w4 ⟨rfl, rfl⟩
      have hcell : w4.cell? ⟨d, k, none⟩ = some (.int .u8 z) := by
        obtain ⟨a1, e1, _, _, h3⟩ := (unhide HR4).text.slice
        cases e1
        have := h3 _ rfl k hlt
        rw [add_none, Nat.zero_add] at this
        rw [this, (unhide HK).2]
      go_wp2_with fail
      go_ret
      exact ⟨rfl, ((((unhide HB1).trans ((unhide HB2).mono (unhide HB1).size)).trans ((unhide HB3).mono (unhide HB1).size)).trans ((unhide HB4).mono (unhide HB1).size))⟩
    · have hend : Pl.nns zs 0 = zs.length := by have := Pl.nns_le zs 0 (Nat.zero_le _); omega
      rw [hend]
      have HE := hide hend
      clear hend hlt
      go_wp2_with fail
      refine (peek_end (unhide HR) (unhide HE)).mono ?_
      rintro e w3 ⟨rfl, hr3, hb3⟩
      have HR3 := hide hr3
      have HB3 := hide hb3
      clear hr3 hb3
      go_wp2_with fail
      refine (pos_rd (unhide HR3)).mono ?_
      rintro e w3 ⟨rfl, rfl⟩
      go_wp2_with fail
      refine (peek_end (unhide HR3) (Pl.nns_end zs _ (Nat.le_refl _))).mono ?_
      rintro e w4 ⟨rfl, hr4, hb4⟩
      have HR4 := hide hr4
      have HB4 := hide hb4
      clear hr4 hb4
      go_wp2_with fail
      refine (pos_rd (unhide HR4)).mono ?_
      rintro e w4 ⟨rfl, rfl⟩
      go_wp2_with fail
      refine (depth_rd (unhide HR4)).mono ?_
      rintro e w4 ⟨rfl, rfl⟩
      go_wp2_with fail
      go_ret
      exact ⟨rfl, ((((unhide HB1).trans ((unhide HB2).mono (unhide HB1).size)).trans ((unhide HB3).mono (unhide HB1).size)).trans ((unhide HB4).mono (unhide HB1).size))⟩
  · have HX := hide (bytes9_no a len cap w (by omega) hcap)
    clear hin hG
    go_enter Tryf.func3, Tryf.ntmps3
    go_wp2_with fail
    refine (unhide HX).mono ?_
    rintro e w' ⟨rfl, rfl⟩
    go_wp2_with fail
    go_ret
    exact ⟨rfl, Below.refl _ _⟩
end Go.Proofs.Qxb6614003aFmt
