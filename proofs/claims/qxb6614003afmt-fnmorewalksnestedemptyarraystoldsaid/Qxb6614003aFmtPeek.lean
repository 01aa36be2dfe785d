/-
  (*Reader).Peek.
-/
import Derived.Test.Qxb6614003aFmtState
namespace Go.Proofs.Qxb6614003aFmt
open Go.RowKit
set_option linter.unusedVariables false

/-- What Peek hands back at place k. -/
def peekV (zs : List Int) (x0 : Addr) (k : Nat) : Value := if k < zs.length then .tuple #[.int .u8 (zs.getD k 0), .nilIface] else .tuple #[.int .u8 0, .iface 81 (.pointer (some x0))]

theorem peekV_lt (zs : List Int) (x0 : Addr) (k : Nat) (z : Int) (h : k < zs.length) (hz : zs.getD k 0 = z) : Ending.returned (peekV zs x0 k) = .returned (.tuple #[.int .u8 z, .nilIface]) := by
  rw [peekV, if_pos h, hz]
theorem peekV_end (zs : List Int) (x0 : Addr) (k : Nat) (h : zs.length ≤ k) : Ending.returned (peekV zs x0 k) = .returned (.tuple #[.int .u8 0, .iface 81 (.pointer (some x0))]) := by
  rw [peekV, if_neg (by omega)]

theorem hle {L : Nat → Prop} {p q d : Nat} {dv : Value} {zs : List Int} {x0 x1 : Addr} {dep : Int} {a : Option Addr} {bl C base off i : Nat} {pr : Int} {eof : Bool} {w : World}
    (h : RdS L p q d dv zs x0 x1 dep a bl C base off i pr eof w) : Pl.nns (piece zs base bl) off ≤ bl := by
  have h1 := piece_length zs base bl (by have := h.hi; have := h.hb; omega)
  have h2 := Pl.nns_le (piece zs base bl) off (by rw [h1]; exact h.ho)
  omega

set_option maxRecDepth 100000 in
set_option maxHeartbeats 1000000 in
theorem peek_any (L : Nat → Prop) (p q d : Nat) (dv : Value) (zs : List Int) (x0 x1 : Addr) (dep : Int) (pos : Nat) (w : World) (h : Rd L p q d dv zs x0 x1 dep pos w) :
    Calls Tryf.prog 13 #[.pointer (some ⟨p, 0, none⟩)] w fun e w' => e = .returned (peekV zs x0 (Pl.nns zs pos)) ∧ RdB L p q d dv zs x0 x1 dep (Pl.nns zs pos) w' ∧ Keep L w w' := by
  have H := hide h
  clear h
  go_enter Tryf.func13, Tryf.ntmps13
  go_wp2
  go_loopg [4] (zs.length + 2) (fun k t wr => ∃ a bl C base off i pr eof, RdS L p q d dv zs x0 x1 dep a bl C base off i pr eof wr ∧ Pl.nns zs (base + off) = Pl.nns zs pos ∧ Keep L w wr ∧ (zs.length - i) + (if eof then 0 else 1) < k)
  case atStart =>
    obtain ⟨a, bl, C, base, off, i, pr, eof, hs, he⟩ := unhide H
    exact ⟨a, bl, C, base, off, i, pr, eof, hs, by rw [he], Keep.refl _ _, by split <;> omega⟩
  case round =>
    obtain ⟨a, bl, C, base, off, i, pr, eof, hs, hn, hbw, hk⟩ := hrel
    have c1 : wr.cell? ⟨p, 1, none⟩ = some (.slice a bl C) := cell_of hs.hp 1
    have c2 : wr.cell? ⟨p, 2, none⟩ = some (.int .i64 off) := cell_of hs.hp 2
    have f2 := frozen_of hs.hp 2
    have hsl := hide (fun (wx : World) (hx : Still wr wx) => space_at a bl C (piece zs base bl) off wx (piece_length zs base bl (by have := hs.hi; have := hs.hb; omega)) hs.ho (by have := hs.hi; have := hs.hb; have := hs.hl; omega)
      (fun b hb j hj => by rw [piece_get zs base bl j hj]; exact (hs.still hx).cont b hb j hj) (fun h => by
        rcases hs.room with ⟨_, r, _⟩ | ⟨g, cur, r, _⟩
        · exact r
        · rw [h] at r; cases r))
    have HS := hide hs
    have HN := hide hn
    have HB := hide hbw
    have HK := hide hk
    clear hs hn hbw hk H
    go_wp2
    go_cut [] (fun wd => RdS L p q d dv zs x0 x1 dep a bl C base (Pl.nns (piece zs base bl) off) i pr eof wd ∧ Keep L w wd)
    case first =>
      go_region_with (go_at_call 28; refine (unhide hsl _ (by exact (Still.refl _).drew)).mono ?_; rintro e w1 ⟨rfl, rfl⟩)
      all_goals go_wp2
      all_goals go_meet
      all_goals exact ⟨((unhide HS).step _ (hle (unhide HS))).still (Still.refl _).drew, ((unhide HB).setCell (unhide HS).pB _).drew⟩
    case rest =>
      obtain ⟨hs, hbw⟩ := hcut
      have hoff := hle (unhide HS)
      have hge := Pl.nns_ge (piece zs base bl) off
      have HP := hide (fun (h : Pl.nns (piece zs base bl) off < bl) => piece_in zs base bl off (by have := hs.hi; have := hs.hb; omega) (unhide HS).ho h)
      have HP2 := hide (fun (h : Pl.nns (piece zs base bl) off = bl) => piece_out zs base bl off (by have := hs.hi; have := hs.hb; omega) (unhide HS).ho h)
      clear hsl HS HB c1 c2 f2
      generalize Pl.nns (piece zs base bl) off = off' at hs hoff hge HP HP2
      have c1 : wc.cell? ⟨p, 1, none⟩ = some (.slice a bl C) := cell_of hs.hp 1
      have c2 : wc.cell? ⟨p, 2, none⟩ = some (.int .i64 off') := cell_of hs.hp 2
      by_cases hlt : off' < bl
      · obtain ⟨b, rfl⟩ : ∃ b, a = some b := by
          rcases hs.room with ⟨_, r, _⟩ | ⟨g, cur, r, _⟩
          · omega
          · exact ⟨_, r⟩
        obtain ⟨bb, bo, bs⟩ := b
        obtain ⟨z, hz, HZ⟩ : ∃ z, wc.cell? ((⟨bb, bo, bs⟩ : Addr).add off') = some (.int .u8 z) ∧ Hid (zs.getD (base + off') 0 = z) := ⟨_, hs.cont _ rfl off' hlt, rfl⟩
        have HS := hide hs
        have HB := hide hbw
        have hbl : bl ≤ 1000000000 := by have := hs.hi; have := hs.hb; have := hs.hl; omega
        have hlt' : (off' : Int) < (bl : Int) := by omega
        clear hs hbw
        go_wp2
        go_quiet (fail)
        go_wp2
        go_quiet (fail)
        go_wp2
        go_ret2
        have hpos : Pl.nns zs pos = base + off' := by rw [← unhide HN]; exact unhide HP hlt
        have hs := unhide HS
        refine ⟨?_, ⟨_, bl, C, base, off', i, pr, eof, hs.still (Still.drewN (Still.drewN (Still.refl _) _) _), hpos, fun _ => hlt⟩, (unhide HB).trans (Still.drewN (Still.drewN (Still.refl _) _) _).keep⟩
        rw [hpos]
        exact (peekV_lt zs x0 _ z (by have := hs.hi; have := hs.hb; omega) (unhide HZ)).symm
      · obtain rfl : off' = bl := by omega
        have HE := hide (unhide HP2 rfl)
        clear hlt HP HP2
        cases eof with
        | true =>
          have c5 : wc.cell? ⟨p, 5, none⟩ = some (.bool true) := cell_of hs.hp 5
          have c6 : wc.cell? ⟨p, 6, none⟩ = some .nilIface := cell_of hs.hp 6
          have g0 := hs.glob.g0
          have HF := hide (fun (wx : World) (h5 : wx.cell? ⟨p, 5, none⟩ = some (.bool true)) (h6 : wx.cell? ⟨p, 6, none⟩ = some .nilIface) (h0 : wx.cell? ⟨0, 0, none⟩ = some (.iface 81 (.pointer (some x0)))) => fill_eof p x0 wx h6 h5 h0)
          have HS := hide hs
          have HB := hide hbw
          clear hs hbw
          go_wp2
          go_quiet (fail)
          go_wp2_with (go_at_call 29; refine (unhide HF _ (by exact c5) (by exact c6) (by exact g0)).mono ?_; rintro e w1 ⟨rfl, rfl⟩)
          go_ret2
          have hs := unhide HS
          have hend : i = zs.length := hs.he rfl
          have hpos : Pl.nns zs pos = base + off' := by
            rw [← unhide HN, ← unhide HE, Pl.nns_end zs _ (by have := hs.hb; omega)]
          refine ⟨?_, ⟨_, off', C, base, off', i, pr, true, hs.still (Still.drewN (Still.refl _) _), hpos, fun h => by have := hs.hb; rw [hpos] at h; omega⟩, (unhide HB).trans (Still.drewN (Still.refl _) _).keep⟩
          rw [hpos]
          exact (peekV_end zs x0 _ (by have := hs.hb; omega)).symm
        | false =>
          have HF := hide (fun (wx : World) (hx : Still wc wx) => have hs' := hs.still hx; fill_any L p q d dv zs a off' C base i dep pr x0 x1 wx hs'.glob hs'.pB hs'.qB hs'.dB hs'.pq hs'.hp hs'.hq hs'.hd hs'.room hs'.hi hs'.hl hs'.hb)
          have HS := hide hs
          have HB := hide hbw
          clear hs hbw
          go_wp2
          go_quiet (fail)
          go_wp2_with (go_at_call 29; refine (unhide HF _ (by exact Still.drewN (Still.refl _) _)).mono ?_; rintro e w1 ⟨g, C1, k, cur, pr1, eof1, rfl, k1, k2, k3, k4, k5, k6⟩)
          have hs := unhide HS
          go_roundg ((zs.length - (i + k)) + (if eof1 then 0 else 1) + 1)
          case measure =>
            have hk := unhide HK
            rw [if_neg (by decide)] at hk
            cases eof1 with
            | false => have := k5 rfl; simp only [Bool.false_eq_true, if_false]; omega
            | true => simp only [if_true]; omega
          case rel =>
            refine ⟨_, k, C1, i, 0, i + k, pr1, eof1, k1.rd hs.pB hs.qB hs.dB hs.pq k2 k3 k4 k6 hs.hl, ?_, ?_, Nat.lt_succ_self _⟩
            · rw [← unhide HN, ← unhide HE, hs.hb]; rfl
            · exact ((unhide HB).trans (Still.drewN (Still.refl _) _).keep).trans k1.kept
end Go.Proofs.Qxb6614003aFmt
