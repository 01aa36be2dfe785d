/-
  THE SMALL WALKS OF THIS SEAT: what the leaves of the road compute.
-/
import Derived.Test.Qxb6613096aProg
import Derived.Test.Qxb6613096aPlain
import Derived.WalkKit
import Derived.WalkSpells
namespace Go.Proofs.Qxb6613096a
open Go.RowKit
set_option linter.unusedVariables false

theorem hide {p : Prop} (h : p) : Hid p := h
theorem unhide {p : Prop} (h : Hid p) : p := h
theorem ret_int {k : IntKind} {a b : Int} (h : a = b) : Ending.returned (.int k a) = .returned (.int k b) := by rw [h]

/-- isSpace. -/
theorem isSpace_any (c : Int) (w : World) :
    Calls Try.prog 16 #[.int .u8 c] w fun e w' => e = .returned (.bool (Pl.isSp c)) ∧ w' = w := by
  unfold Pl.isSp
  cases h1 : c == 32 <;> cases h2 : c == 9 <;> cases h3 : c == 10 <;> cases h4 : c == 13
  all_goals
    go_enter Try.func16, Try.ntmps16
    go_wp2
    go_ret
    exact ⟨rfl, rfl⟩

/-- ZZisSpace. -/
theorem zzIsSpace_any (c : Int) (w : World) :
    Calls Try.prog 12 #[.int .u8 c] w fun e w' => e = .returned (.bool (Pl.isSp c)) ∧ w' = w := by
  go_enter Try.func12, Try.ntmps12
  go_wp2_with (go_at_call 16; refine (isSpace_any _ _).mono ?_; rintro e w' ⟨rfl, rfl⟩)
  go_ret
  exact ⟨rfl, rfl⟩

/-- skipSpace. -/
theorem skipSpace_any (a : Option Addr) (cap : Nat) (zs : List Int) (i : Nat) (w : World) (hi : i ≤ zs.length) (hl : zs.length ≤ 1000000000)
    (hc : ∀ b, a = some b → ∀ j, j < zs.length → w.cell? (b.add j) = some (.int .u8 (zs.getD j 0))) (hn : a = none → zs = []) :
    Calls Try.prog 17 #[.slice a zs.length cap, .int .i64 i] w fun e w' => e = .returned (.int .i64 (Pl.nns zs i)) ∧ w' = w := by
  go_enter Try.func17, Try.ntmps17
  go_wp2
  go_loop [1] (fun t => ∃ k : Nat, i ≤ k ∧ k ≤ zs.length ∧ t = .int .i64 k ∧ Pl.nns zs k = Pl.nns zs i) (fun t => zs.length - (intOf t).toNat)
  case atStart => exact ⟨i, by omega, hi, rfl, rfl⟩
  case round =>
    obtain ⟨k, hik, hk, rfl, he⟩ := hrel
    have HE : Hid (Pl.nns zs k = Pl.nns zs i) := he
    clear he
    by_cases hlt : k < zs.length
    · cases a with
      | none => rw [hn rfl] at hlt; exact absurd hlt (by simp)
      | some x =>
        obtain ⟨xb, xo, xs⟩ := x
        obtain ⟨z, hcell, HZ⟩ : ∃ z, w.cell? ((⟨xb, xo, xs⟩ : Addr).add k) = some (.int .u8 z) ∧ Hid (zs.getD k 0 = z) := ⟨_, hc _ rfl k hlt, rfl⟩
        clear hc hn
        cases hs : Pl.isSp z
        · go_wp2_with (go_at_call 16; refine (isSpace_any _ _).mono ?_; rintro e w' ⟨rfl, rfl⟩)
          go_ret
          exact ⟨ret_int (by rw [← HE.out, Pl.nns_stop zs k hlt (by rw [HZ.out]; exact hs)]), rfl⟩
        · go_wp2_with (go_at_call 16; refine (isSpace_any _ _).mono ?_; rintro e w' ⟨rfl, rfl⟩)
          go_round
          case rel => exact ⟨k + 1, by omega, by omega, by go_num, by rw [← HE.out, Pl.nns_skip zs k hlt (by rw [HZ.out]; exact hs)]⟩
          case measure => simp [intOf]; omega
    · go_wp2
      go_ret
      exact ⟨ret_int (by rw [← HE.out, Pl.nns_end zs k (by omega)]), rfl⟩

/-- ZZskipSpace. -/
theorem zzSkip_any (a : Option Addr) (len cap : Nat) (zs : List Int) (i : Nat) (w : World) (hlen : len = zs.length) (hi : i ≤ zs.length) (hl : zs.length ≤ 1000000000)
    (hc : ∀ b, a = some b → ∀ j, j < zs.length → w.cell? (b.add j) = some (.int .u8 (zs.getD j 0))) (hn : a = none → zs = []) :
    Calls Try.prog 13 #[.slice a len cap, .int .i64 i] w fun e w' => e = .returned (.int .i64 (Pl.nns zs i)) ∧ w' = w := by
  subst hlen
  have H := hide (skipSpace_any a cap zs i w hi hl hc hn)
  clear hc hn
  go_enter Try.func13, Try.ntmps13
  go_wp2_with (go_at_call 17; refine (unhide H).mono ?_; rintro e w' ⟨rfl, rfl⟩)
  go_ret
  exact ⟨rfl, rfl⟩

/-- zzBytes of the skip law. -/
theorem bytes11_no (a : Option Addr) (len cap : Nat) (i : Int) (w : World) (h : (1048576 : Int) < len) (hc : len ≤ 9223372036854775807) :
    Calls Try.prog 11 #[.slice a len cap, .int .i64 i] w fun e w' => e = .returned (.bool false) ∧ w' = w := by
  go_enter Try.func11, Try.ntmps11
  go_wp2
  go_ret
  exact ⟨rfl, rfl⟩
theorem bytes11_yes (a : Option Addr) (len cap : Nat) (i : Int) (w : World) (h : (len : Int) ≤ 1048576) :
    Calls Try.prog 11 #[.slice a len cap, .int .i64 i] w fun e w' => e = .returned (.bool true) ∧ w' = w := by
  go_enter Try.func11, Try.ntmps11
  go_wp2
  go_ret
  exact ⟨rfl, rfl⟩
end Go.Proofs.Qxb6613096a
