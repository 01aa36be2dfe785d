/-
  FnDelimRefusesAllButTheNextByte: the walk.
-/
import Derived.Test.Qxb6614003aFmtDelim
namespace Go.Proofs.Qxb6614003aFmt
open Go.RowKit Go.Extern.Stop Go.Stop Go.Extern
set_option linter.unusedVariables false

theorem bytes20_no (a : Option Addr) (len cap : Nat) (dl : Int) (w : World) (h : (1048576 : Int) < len) (hc : len ≤ 9223372036854775807) :
    Calls Tryf.prog 20 #[.slice a len cap, .int .u8 dl] w fun e w' => e = .returned (.bool false) ∧ w' = w := by
  go_enter Tryf.func20, Tryf.ntmps20
  go_wp2
  go_ret
  exact ⟨rfl, rfl⟩
theorem bytes20_yes (a : Option Addr) (len cap : Nat) (dl : Int) (w : World) (h : (len : Int) ≤ 1048576) :
    Calls Tryf.prog 20 #[.slice a len cap, .int .u8 dl] w fun e w' => e = .returned (.bool true) ∧ w' = w := by
  go_enter Tryf.func20, Tryf.ntmps20
  go_wp2
  go_ret
  exact ⟨rfl, rfl⟩

/-- One of the six delimiters. -/
def isDl (c : Int) : Bool := c == 123 || c == 125 || c == 91 || c == 93 || c == 44 || c == 58
theorem isDelim_any (c : Int) (w : World) : Calls Tryf.prog 18 #[.int .u8 c] w fun e w' => e = .returned (.bool (isDl c)) ∧ w' = w := by
  unfold isDl
  by_cases h1 : c = 123
  · subst h1; go_enter Tryf.func18, Tryf.ntmps18; go_wp2; go_ret; exact ⟨rfl, rfl⟩
  by_cases h2 : c = 125
  · subst h2; go_enter Tryf.func18, Tryf.ntmps18; go_wp2; go_ret; exact ⟨rfl, rfl⟩
  by_cases h3 : c = 91
  · subst h3; go_enter Tryf.func18, Tryf.ntmps18; go_wp2; go_ret; exact ⟨rfl, rfl⟩
  by_cases h4 : c = 93
  · subst h4; go_enter Tryf.func18, Tryf.ntmps18; go_wp2; go_ret; exact ⟨rfl, rfl⟩
  by_cases h5 : c = 44
  · subst h5; go_enter Tryf.func18, Tryf.ntmps18; go_wp2; go_ret; exact ⟨rfl, rfl⟩
  have g1 : (c == 123) = false := beq_eq_false_iff_ne.2 h1
  have g2 : (c == 125) = false := beq_eq_false_iff_ne.2 h2
  have g3 : (c == 91) = false := beq_eq_false_iff_ne.2 h3
  have g4 : (c == 93) = false := beq_eq_false_iff_ne.2 h4
  have g5 : (c == 44) = false := beq_eq_false_iff_ne.2 h5
  rw [g1, g2, g3, g4, g5]
  clear h1 h2 h3 h4 h5
  cases g6 : c == 58
  all_goals (go_enter Tryf.func18, Tryf.ntmps18; go_wp2; go_ret; exact ⟨rfl, rfl⟩)

/-- The byte at a place of the text, for the walk. -/
theorem Text.at {w : World} {d n : Nat} {zs : List Int} {a : Option Addr} (ht : Text w d (.slice a n n) zs) {k : Nat} (hk : k < zs.length) : a = some ⟨d, 0, none⟩ ∧ w.cell? ⟨d, k, none⟩ = some (.int .u8 (zs.getD k 0)) := by
  obtain ⟨a1, e1, h1, h2, h3⟩ := ht.slice
  cases e1
  cases a with
  | none => rw [h1 rfl] at hk; simp at hk
  | some b =>
    obtain rfl := h2 b rfl
    have := h3 _ rfl k hk
    rw [add_none, Nat.zero_add] at this
    exact ⟨rfl, this⟩
/-- .. over a length under a name. -/
theorem Text.named {w : World} {d : Nat} {dv : Value} {zs : List Int} {n : Nat} (ht : Text w d dv zs) (hn : n = zs.length) : ∃ a, dv = .slice a n n := by
  obtain ⟨a1, e1, _⟩ := ht.slice
  exact ⟨a1, by rw [hn]; exact e1⟩

/-- The delimiters that move the depth, and the others. -/
theorem five (z : Int) : (z = 123 ∧ dd z = 1) ∨ (z = 91 ∧ dd z = 1) ∨ (z = 125 ∧ dd z = -1) ∨ (z = 93 ∧ dd z = -1) ∨ ((z == 123) = false ∧ (z == 91) = false ∧ (z == 125) = false ∧ (z == 93) = false ∧ dd z = 0) := by
  by_cases e1 : z = 123
  · exact .inl ⟨e1, by subst e1; rfl⟩
  by_cases e2 : z = 91
  · exact .inr (.inl ⟨e2, by subst e2; rfl⟩)
  by_cases e3 : z = 125
  · exact .inr (.inr (.inl ⟨e3, by subst e3; rfl⟩))
  by_cases e4 : z = 93
  · exact .inr (.inr (.inr (.inl ⟨e4, by subst e4; rfl⟩)))
  · exact .inr (.inr (.inr (.inr ⟨beq_eq_false_iff_ne.2 e1, beq_eq_false_iff_ne.2 e2, beq_eq_false_iff_ne.2 e3, beq_eq_false_iff_ne.2 e4, by unfold dd; rw [if_neg (by omega), if_neg (by omega)]⟩)))

set_option maxRecDepth 100000 in
set_option maxHeartbeats 2000000 in
theorem refuse_walk (F : Interp) (a : Option Addr) (len cap : Nat) (dl : Int) (zs : List Int) (x0 x1 : Addr) (w : World) (hF : F.answers w.tape) (hin : In w a len cap zs) (hcap : len ≤ 9223372036854775807) (hG : Glob (fun k => k < w.heap.size) x0 x1 w) (hH : Hand (fun k => k < w.heap.size) w) :
    Calls Tryf.prog 6 #[.slice a len cap, .int .u8 dl] w fun e w' => e = .returned (.bool true) ∧ Below w.heap.size w w' := by
  by_cases hbig : (len : Int) ≤ 1048576
  · have HL := hide hin.len
    have HI := hide hin
    have HG := hide hG
    have HH := hide hH
    have HF := hide hF
    clear hin hG hH hF
    cases hdl : isDl dl with
    | false =>
      go_enter Tryf.func6, Tryf.ntmps6
      go_wp2_with fail
      refine (bytes20_yes a len cap dl w hbig).mono ?_
      rintro e w' ⟨rfl, rfl⟩
      go_wp2_with fail
      refine (isDelim_any dl _).mono ?_
      rintro e w' ⟨rfl, rfl⟩
      go_wp2_with fail
      go_ret
      exact ⟨rfl, Below.refl _ _⟩
    | true =>
      go_enter Tryf.func6, Tryf.ntmps6
      go_wp2_with fail
      refine (bytes20_yes a len cap dl w hbig).mono ?_
      rintro e w' ⟨rfl, rfl⟩
      go_wp2_with fail
      refine (isDelim_any dl _).mono ?_
      rintro e w' ⟨rfl, rfl⟩
      go_wp2_with fail
      refine (clone_any a len cap zs _ (unhide HI) (by omega) ((unhide HG).lim 0 (unhide HG).l0)).mono ?_
      rintro e w1 ⟨d, dv, rfl, ht, hd, hb1⟩
      obtain ⟨a1, hdv⟩ := ht.named (unhide HL)
      subst hdv
      have hlz : zs.length ≤ 100000000 := by have := unhide HL; omega
      have HT := hide (And.intro ht (And.intro hd (And.intro hb1 (And.intro (glob_up (unhide HG) hb1) hlz))))
      clear ht hd hb1 hlz
      go_wp2_with fail
      refine (newReader_rd d _ zs x0 x1 _ (unhide HT).2.2.2.1 (unhide HT).1 (unhide HT).2.1 (unhide HT).2.2.2.2).mono ?_
      rintro e w2 ⟨rfl, hb2, hr⟩
      have hb0 : Below w'.heap.size w' w2 := (unhide HT).2.2.1.trans (hb2.mono (unhide HT).2.2.1.size)
      have hH2 : Hand (fun k => k < w1.heap.size) w2 := ⟨Nat.lt_of_lt_of_le (unhide HH).l3 (unhide HT).2.2.1.size, (hb0.cell (unhide HH).l3).trans (unhide HH).g3⟩
      have hF2 : F.answers w2.tape := by rw [hb0.tape]; exact unhide HF
      have HS := hide (And.intro hr (And.intro hH2 (And.intro hF2 (And.intro hb0 (unhide HT).2.2.1.size))))
      have HLZ := hide (unhide HT).2.2.2.2
      clear hr hH2 hF2 hb0 hb2 HT HH HF HI HG
      go_wp2_with fail
      refine (next_text (i := 0) (unhide HS).1.text (Nat.zero_le _) (by have := unhide HLZ; omega)).mono ?_
      rintro e w2 ⟨rfl, rfl⟩
      by_cases hlt : Pl.nns zs 0 < zs.length
      · obtain ⟨k, hk⟩ : ∃ k, k = Pl.nns zs 0 := ⟨_, rfl⟩
        obtain ⟨z, hz⟩ : ∃ z, z = zs.getD k 0 := ⟨_, rfl⟩
        rw [← hk] at hlt ⊢
        obtain ⟨ha1, _⟩ := (unhide HS).1.text.at hlt
        subst ha1
        have hkl : k < len := by rw [unhide HL]; exact hlt
        have hkne : ((k : Int) == (len : Int)) = false := beq_eq_false_iff_ne.2 (by omega)
        have HK := hide (And.intro hk (And.intro hz hlt))
        clear hk hz hlt
        by_cases hzd : z = dl
        · subst hzd
          have hk1 : k + 1 ≤ zs.length := (unhide HK).2.2
          obtain ⟨D, hD⟩ : ∃ D, D = 0 + dd z := ⟨_, rfl⟩
          have HD := hide hD
          clear hD
          go_wp2_with fail
          refine (delim_good z (unhide HS).1 k (unhide HK).1.symm (unhide HK).2.2 (unhide HK).2.1.symm (by decide) (by decide)).mono ?_
          rintro e w3 ⟨rfl, hr3, hk3⟩
          rw [← unhide HD] at hr3
          have HR3 := hide (And.intro hr3 hk3)
          clear hr3 hk3
          have hcell0 : ∀ wx : World, Text wx d (.slice (some ⟨d, 0, none⟩) len len) zs → wx.cell? ⟨d, k, none⟩ = some (.int .u8 z) := fun wx ht => by rw [(ht.at (unhide HK).2.2).2, (unhide HK).2.1]
          have HC0 := hide hcell0
          clear hcell0
          by_cases hj : Pl.nns zs (k + 1) < zs.length
          · obtain ⟨m, hm⟩ : ∃ m, m = Pl.nns zs (k + 1) := ⟨_, rfl⟩
            obtain ⟨y, hy⟩ : ∃ y, y = zs.getD m 0 := ⟨_, rfl⟩
            rw [← hm] at hj
            have hml : m < len := by rw [unhide HL]; exact hj
            have hmne : ((m : Int) == (len : Int)) = false := beq_eq_false_iff_ne.2 (by omega)
            have HM := hide (And.intro hm (And.intro hy hj))
            clear hm hy hj
            go_wp2_with fail
            refine (peek_lt (unhide HR3).1 m y (unhide HM).1.symm (unhide HM).2.2 (unhide HM).2.1.symm).mono ?_
            rintro e w4 ⟨rfl, hr4, hk4⟩
            have hcell := unhide HC0 w4 hr4.text
            have hcell2 : w4.cell? ⟨d, m, none⟩ = some (.int .u8 y) := by rw [(hr4.text.at (unhide HM).2.2).2, (unhide HM).2.1]
            have HR4 := hide (And.intro hr4 hk4)
            clear hr4 hk4
            go_wp2_with fail
            refine (depth_rd (unhide HR4).1).mono ?_
            rintro e w4 ⟨rfl, rfl⟩
            go_wp2_with fail
            refine (pos_rd (unhide HR4).1).mono ?_
            rintro e w4 ⟨rfl, rfl⟩
            have hnext := next_text (i := k + 1) (unhide HR4).1.text hk1 (by have := unhide HLZ; omega)
            rw [show ((k + 1 : Nat) : Int) = (k : Int) + 1 by omega, ← (unhide HM).1] at hnext
            have HNX := hide hnext
            have hfin : Below w'.heap.size w' w4 := (unhide HS).2.2.2.1.trans ((((unhide HR3).2.trans (unhide HR4).2).below (B := w1.heap.size) (fun _ h => h)).mono (unhide HS).2.2.2.2)
            have HFI := hide hfin
            clear hfin hnext HR3 HR4 HS HC0
            rcases five z with ⟨e1, e2⟩ | ⟨e1, e2⟩ | ⟨e1, e2⟩ | ⟨e1, e2⟩ | ⟨g1, g2, g3, g4, e2⟩
            all_goals
              have hDD := unhide HD
              rw [e2] at hDD
              clear e2
              first | subst e1 | skip
              clear HD
              subst hDD
              go_wp2_with fail
              refine (unhide HNX).mono ?_
              rintro e w4 ⟨rfl, rfl⟩
              go_wp2_with fail
              go_ret
              exact ⟨rfl, unhide HFI⟩
          · have hje : Pl.nns zs (k + 1) = zs.length := by have := Pl.nns_le zs (k + 1) hk1; omega
            have hjl : Pl.nns zs (k + 1) = len := by rw [hje, unhide HL]
            have HM := hide (And.intro hje hjl)
            clear hje hjl hj
            go_wp2_with fail
            refine (peek_end (unhide HR3).1 (unhide HM).1).mono ?_
            rintro e w4 ⟨rfl, hr4, hk4⟩
            have hcell := unhide HC0 w4 hr4.text
            rw [← unhide HL] at hr4
            have HR4 := hide (And.intro hr4 hk4)
            clear hr4 hk4
            go_wp2_with fail
            refine (depth_rd (unhide HR4).1).mono ?_
            rintro e w4 ⟨rfl, rfl⟩
            go_wp2_with fail
            refine (pos_rd (unhide HR4).1).mono ?_
            rintro e w4 ⟨rfl, rfl⟩
            have hnext := next_text (i := k + 1) (unhide HR4).1.text hk1 (by have := unhide HLZ; omega)
            rw [show ((k + 1 : Nat) : Int) = (k : Int) + 1 by omega, (unhide HM).2] at hnext
            have HNX := hide hnext
            have hfin : Below w'.heap.size w' w4 := (unhide HS).2.2.2.1.trans ((((unhide HR3).2.trans (unhide HR4).2).below (B := w1.heap.size) (fun _ h => h)).mono (unhide HS).2.2.2.2)
            have HFI := hide hfin
            clear hfin hnext HR3 HR4 HS HC0
            rcases five z with ⟨e1, e2⟩ | ⟨e1, e2⟩ | ⟨e1, e2⟩ | ⟨e1, e2⟩ | ⟨g1, g2, g3, g4, e2⟩
            all_goals
              have hDD := unhide HD
              rw [e2] at hDD
              clear e2
              first | subst e1 | skip
              clear HD
              subst hDD
              go_wp2_with fail
              refine (unhide HNX).mono ?_
              rintro e w4 ⟨rfl, rfl⟩
              go_wp2_with fail
              go_ret
              exact ⟨rfl, unhide HFI⟩
        · have hzb : (z != dl) = true := bne_iff_ne.2 hzd
          have HZD := hide hzd
          clear hzd
          go_wp2_with fail
          refine (delim_bad dl F (unhide HS).2.2.1 (unhide HS).2.1 (unhide HS).1 k z (unhide HK).1.symm (unhide HK).2.2 (unhide HK).2.1.symm (unhide HZD)).mono ?_
          rintro e w3 ⟨eb, rfl, hr3, hk3⟩
          have HR3 := hide (And.intro hr3 hk3)
          clear hr3 hk3
          go_wp2_with fail
          refine (peek_lt (unhide HR3).1 k z (by rw [(unhide HK).1]; exact Pl.nns_idem zs 0) (unhide HK).2.2 (unhide HK).2.1.symm).mono ?_
          rintro e w4 ⟨rfl, hr4, hk4⟩
          have hcell : w4.cell? ⟨d, k, none⟩ = some (.int .u8 z) := by rw [(hr4.text.at (unhide HK).2.2).2, (unhide HK).2.1]
          have HR4 := hide (And.intro hr4 hk4)
          clear hr4 hk4
          go_wp2_with fail
          refine (depth_rd (unhide HR4).1).mono ?_
          rintro e w4 ⟨rfl, rfl⟩
          go_wp2_with fail
          refine (pos_rd (unhide HR4).1).mono ?_
          rintro e w4 ⟨rfl, rfl⟩
          go_wp2_with fail
          go_ret
          exact ⟨rfl, (unhide HS).2.2.2.1.trans ((((unhide HR3).2.trans (unhide HR4).2).below (B := w1.heap.size) (fun _ h => h)).mono (unhide HS).2.2.2.2)⟩
      · have hend : Pl.nns zs 0 = zs.length := by have := Pl.nns_le zs 0 (Nat.zero_le _); omega
        have hnl : Pl.nns zs 0 = len := by rw [hend, unhide HL]
        rw [hnl]
        have HE := hide (And.intro hend hnl)
        clear hend hnl hlt
        go_wp2_with fail
        refine (delim_end dl (unhide HS).1 (unhide HE).1).mono ?_
        rintro e w3 ⟨rfl, hr3, hk3⟩
        have HR3 := hide (And.intro hr3 hk3)
        clear hr3 hk3
        go_wp2_with fail
        refine (peek_end (unhide HR3).1 (Pl.nns_end zs _ (Nat.le_refl _))).mono ?_
        rintro e w4 ⟨rfl, hr4, hk4⟩
        rw [← unhide HL] at hr4
        have HR4 := hide (And.intro hr4 hk4)
        clear hr4 hk4
        go_wp2_with fail
        refine (depth_rd (unhide HR4).1).mono ?_
        rintro e w4 ⟨rfl, rfl⟩
        go_wp2_with fail
        refine (pos_rd (unhide HR4).1).mono ?_
        rintro e w4 ⟨rfl, rfl⟩
        go_wp2_with fail
        go_ret
        exact ⟨rfl, (unhide HS).2.2.2.1.trans ((((unhide HR3).2.trans (unhide HR4).2).below (B := w1.heap.size) (fun _ h => h)).mono (unhide HS).2.2.2.2)⟩
  · have HX := hide (bytes20_no a len cap dl w (by omega) hcap)
    clear hin hG hH hF
    go_enter Tryf.func6, Tryf.ntmps6
    go_wp2_with fail
    refine (unhide HX).mono ?_
    rintro e w' ⟨rfl, rfl⟩
    go_wp2_with fail
    go_ret
    exact ⟨rfl, Below.refl _ _⟩
end Go.Proofs.Qxb6614003aFmt
