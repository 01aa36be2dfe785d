/-
  THE SMALL WALKS OF THIS SEAT: what the leaves of the road compute.
-/
import Derived.Test.Qxb6614003aFmtProg
import Derived.Test.Qxb6614003aFmtPlain
import Derived.WalkKit
import Derived.WalkSpells
namespace Go.Proofs.Qxb6614003aFmt
open Go.RowKit

theorem hide {p : Prop} (h : p) : Hid p := h
theorem unhide {p : Prop} (h : Hid p) : p := h
theorem ret_bool {a b : Bool} (h : a = b) : Ending.returned (.bool a) = .returned (.bool b) := by rw [h]
theorem ret_int {k : IntKind} {a b : Int} (h : a = b) : Ending.returned (.int k a) = .returned (.int k b) := by rw [h]

/-- jpIsSpace. -/
theorem isSpace_any (c : Int) (w : World) :
    Calls Tryf.prog 25 #[.int .u8 c] w fun e w' => e = .returned (.bool (Pl.isSp c)) ∧ w' = w := by
  unfold Pl.isSp
  cases h1 : c == 32 <;> cases h2 : c == 9 <;> cases h3 : c == 10 <;> cases h4 : c == 13
  all_goals
    go_enter Tryf.func25, Tryf.ntmps25
    go_wp2
    go_ret
    exact ⟨rfl, rfl⟩

/-- ZZbase, ZZoff, ZZdepth, jpPos. -/
theorem base_any (p : Nat) (n : Int) (w : World) (h : w.cell? ⟨p, 3, none⟩ = some (.int .i64 n)) :
    Calls Tryf.prog 30 #[.pointer (some ⟨p, 0, none⟩)] w fun e w' => e = .returned (.int .i64 n) ∧ w' = w := by
  go_enter Tryf.func30, Tryf.ntmps30
  go_wp2
  go_ret
  exact ⟨rfl, rfl⟩
theorem off_any (p : Nat) (n : Int) (w : World) (h : w.cell? ⟨p, 2, none⟩ = some (.int .i64 n)) :
    Calls Tryf.prog 31 #[.pointer (some ⟨p, 0, none⟩)] w fun e w' => e = .returned (.int .i64 n) ∧ w' = w := by
  go_enter Tryf.func31, Tryf.ntmps31
  go_wp2
  go_ret
  exact ⟨rfl, rfl⟩
theorem depth_any (p : Nat) (n : Int) (w : World) (h : w.cell? ⟨p, 4, none⟩ = some (.int .i64 n)) :
    Calls Tryf.prog 15 #[.pointer (some ⟨p, 0, none⟩)] w fun e w' => e = .returned (.int .i64 n) ∧ w' = w := by
  go_enter Tryf.func15, Tryf.ntmps15
  go_wp2
  go_ret
  exact ⟨rfl, rfl⟩
theorem pos_any (p : Nat) (b o : Nat) (w : World) (hb : w.cell? ⟨p, 3, none⟩ = some (.int .i64 b)) (ho : w.cell? ⟨p, 2, none⟩ = some (.int .i64 o)) (hs : b + o ≤ 1000000000) :
    Calls Tryf.prog 14 #[.pointer (some ⟨p, 0, none⟩)] w fun e w' => e = .returned (.int .i64 ((b : Int) + (o : Int))) ∧ w' = w := by
  go_enter Tryf.func14, Tryf.ntmps14
  go_wp2_with (first
    | (go_at_call 30; refine (base_any p b _ hb).mono ?_; rintro e w' ⟨rfl, rfl⟩)
    | (go_at_call 31; refine (off_any p o _ ho).mono ?_; rintro e w' ⟨rfl, rfl⟩))
  go_ret
  exact ⟨rfl, rfl⟩

/-- jpNextNonSpace. -/
theorem next_any (a : Option Addr) (cap : Nat) (zs : List Int) (i : Nat) (w : World) (hi : i ≤ zs.length) (hl : zs.length ≤ 1000000000)
    (hc : ∀ b, a = some b → ∀ j, j < zs.length → w.cell? (b.add j) = some (.int .u8 (zs.getD j 0))) (hn : a = none → zs = []) :
    Calls Tryf.prog 11 #[.slice a zs.length cap, .int .i64 i] w fun e w' => e = .returned (.int .i64 (Pl.nns zs i)) ∧ w' = w := by
  go_enter Tryf.func11, Tryf.ntmps11
  go_wp2
  go_loop [1] (fun t => ∃ k : Nat, i ≤ k ∧ k ≤ zs.length ∧ t = .int .i64 k ∧ Pl.nns zs k = Pl.nns zs i) (fun t => zs.length - (intOf t).toNat)
  case atStart => exact ⟨i, by omega, hi, rfl, rfl⟩
  case round =>
    obtain ⟨k, hik, hk, rfl, he⟩ := hrel
    have HE : Hid (Pl.nns zs k = Pl.nns zs i) := he
    clear he
    by_cases hlt : k < zs.length
    · cases a with
      | none => rw [hn rfl] at hlt; exact absurd hlt (by simp)
      | some x =>
        obtain ⟨xb, xo, xs⟩ := x
        obtain ⟨z, hcell, HZ⟩ : ∃ z, w.cell? ((⟨xb, xo, xs⟩ : Addr).add k) = some (.int .u8 z) ∧ Hid (zs.getD k 0 = z) := ⟨_, hc _ rfl k hlt, rfl⟩
        clear hc hn
        cases hs : Pl.isSp z
        · go_wp2_with (go_at_call 25; refine (isSpace_any _ _).mono ?_; rintro e w' ⟨rfl, rfl⟩)
          go_ret
          exact ⟨ret_int (by rw [← HE.out, Pl.nns_stop zs k hlt (by rw [HZ.out]; exact hs)]), rfl⟩
        · go_wp2_with (go_at_call 25; refine (isSpace_any _ _).mono ?_; rintro e w' ⟨rfl, rfl⟩)
          go_round
          case rel => exact ⟨k + 1, by omega, by omega, by go_num, by rw [← HE.out, Pl.nns_skip zs k hlt (by rw [HZ.out]; exact hs)]⟩
          case measure => simp [intOf]; omega
    · go_wp2
      go_ret
      exact ⟨ret_int (by rw [← HE.out, Pl.nns_end zs k (by omega)]), rfl⟩

/-- jsonpick's space. -/
theorem space_any (a : Option Addr) (cap : Nat) (zs : List Int) (i : Nat) (w : World) (hi : i ≤ zs.length) (hl : zs.length ≤ 1000000000)
    (hc : ∀ b, a = some b → ∀ j, j < zs.length → w.cell? (b.add j) = some (.int .u8 (zs.getD j 0))) (hn : a = none → zs = []) :
    Calls Tryf.prog 28 #[.slice a zs.length cap, .int .i64 i] w fun e w' => e = .returned (.int .i64 (Pl.nns zs i)) ∧ w' = w := by
  go_enter Tryf.func28, Tryf.ntmps28
  go_wp2
  go_loop [1] (fun t => ∃ k : Nat, i ≤ k ∧ k ≤ zs.length ∧ t = .int .i64 k ∧ Pl.nns zs k = Pl.nns zs i) (fun t => zs.length - (intOf t).toNat)
  case atStart => exact ⟨i, by omega, hi, rfl, rfl⟩
  case round =>
    obtain ⟨k, hik, hk, rfl, he⟩ := hrel
    have HE : Hid (Pl.nns zs k = Pl.nns zs i) := he
    clear he
    by_cases hlt : k < zs.length
    · cases a with
      | none => rw [hn rfl] at hlt; exact absurd hlt (by simp)
      | some x =>
        obtain ⟨xb, xo, xs⟩ := x
        obtain ⟨z, hcell, HZ⟩ : ∃ z, w.cell? ((⟨xb, xo, xs⟩ : Addr).add k) = some (.int .u8 z) ∧ Hid (zs.getD k 0 = z) := ⟨_, hc _ rfl k hlt, rfl⟩
        clear hc hn
        have HS : Hid (Pl.isSp z = (z == 32 || z == 9 || z == 10 || z == 13)) := rfl
        cases h1 : z == 32 <;> cases h2 : z == 9 <;> cases h3 : z == 10 <;> cases h4 : z == 13
        case false.false.false.false =>
          go_wp2
          go_ret
          exact ⟨ret_int (by rw [← HE.out, Pl.nns_stop zs k hlt (by rw [HZ.out, HS.out, h1, h2, h3, h4]; rfl)]), rfl⟩
        all_goals
          go_wp2
          go_round
          case rel => exact ⟨k + 1, by omega, by omega, by go_num, by rw [← HE.out, Pl.nns_skip zs k hlt (by rw [HZ.out, HS.out, h1, h2, h3, h4]; rfl)]⟩
          case measure => simp [intOf]; omega
    · go_wp2
      go_ret
      exact ⟨ret_int (by rw [← HE.out, Pl.nns_end zs k (by omega)]), rfl⟩
end Go.Proofs.Qxb6614003aFmt
