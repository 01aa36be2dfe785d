/-
  THE SMALL WALKS OF THE LAW ON TEXTS: zzBytes, textsWithin, textOf.
-/
import Derived.Test.Qxb6613096aSkip
namespace Go.Proofs.Qxb6613096a
open Go.RowKit
set_option linter.unusedVariables false

/-- The length of the string at place j. -/
def szAt (ss : List ByteArray) (j : Nat) : Nat := (ss.getD j ByteArray.empty).size

/-- What zzBytes answers: yes, and then each string is short; or no. -/
def Ans6 (ss : List ByteArray) (n : Nat) (w : World) (e : Ending) (w' : World) : Prop := ∃ b, e = .returned (.bool b) ∧ w' = w ∧ (b = true → ∀ j, j < n → szAt ss j ≤ 1048576)
theorem ans6 {ss : List ByteArray} {n : Nat} {w : World} {e : Ending} {w' : World} (b : Bool) (h1 : e = .returned (.bool b)) (h2 : w' = w) (h3 : b = true → ∀ j, j < n → szAt ss j ≤ 1048576) : Ans6 ss n w e w' := ⟨b, h1, h2, h3⟩
/-- Some bool. -/
def Ans7 (w : World) (e : Ending) (w' : World) : Prop := ∃ b, e = .returned (.bool b) ∧ w' = w
theorem ans7 {w : World} {e : Ending} {w' : World} (b : Bool) (h1 : e = .returned (.bool b)) (h2 : w' = w) : Ans7 w e w' := ⟨b, h1, h2⟩

/-- zzBytes of the law on texts. -/
theorem bytes6_some (a : Addr) (n cap : Nat) (v : Int) (ss : List ByteArray) (w : World) (hn : n ≤ ss.length) (hc : ∀ j, j < ss.length → w.cell? (a.add j) = some (.string (ss.getD j ByteArray.empty)))
    (hs : ∀ j, szAt ss j ≤ 9223372036854775807) (hl : (n : Int) ≤ 1048576) :
    Calls Try.prog 6 #[.slice (some a) n cap, .int .i64 v] w (Ans6 ss n w) := by
  have HC := hide (And.intro hn (And.intro hc hs))
  obtain ⟨ab, ao, az⟩ := a
  clear hn hc hs
  go_enter Try.func6, Try.ntmps6
  go_wp2_with fail
  go_loop [5, 6] (fun zn zi => ∃ (t k : Nat), zn = .int .i64 t ∧ zi = .int .i64 k ∧ t ≤ 1048576 ∧ k ≤ n ∧ ∀ j, j < k → szAt ss j ≤ 1048576) (fun _ zi => n - (intOf zi).toNat)
  case atStart => exact ⟨n, 0, rfl, rfl, by omega, by omega, fun j hj => absurd hj (Nat.not_lt_zero _)⟩
  case round =>
    obtain ⟨t, k, rfl, rfl, ht, hk, hall⟩ := hrel
    have HA := hide hall
    clear hall
    by_cases hlt : k < n
    · have hcell := (unhide HC).2.1 k (Nat.lt_of_lt_of_le hlt (unhide HC).1)
      have hsz := (unhide HC).2.2 k
      unfold szAt at hsz
      obtain ⟨s, hs⟩ : ∃ s, s = ss.getD k ByteArray.empty := ⟨_, rfl⟩
      rw [← hs] at hcell hsz
      have HS := hide hs
      clear hs
      by_cases h1 : (1048576 : Int) < s.size
      · go_wp2_with fail
        go_ret
        exact ans6 false rfl rfl (fun h => by cases h)
      · by_cases h2 : (1048576 : Int) < (t : Int) + s.size
        · go_wp2_with fail
          go_ret
          exact ans6 false rfl rfl (fun h => by cases h)
        · go_wp2_with fail
          go_round
          case rel =>
            refine ⟨t + s.size, k + 1, by go_num, by go_num, by omega, by omega, fun j hj => ?_⟩
            by_cases hjk : j < k
            · exact unhide HA j hjk
            · obtain rfl : j = k := by omega
              unfold szAt
              rw [← unhide HS]
              omega
          case measure => simp [intOf]; omega
    · have hkn : k = n := by omega
      subst hkn
      go_wp2_with fail
      go_ret
      exact ans6 true rfl rfl (fun _ => unhide HA)
theorem bytes6_big (a : Option Addr) (n cap : Nat) (v : Int) (w : World) (hn : n ≤ 9223372036854775807) (hl : (1048576 : Int) < n) :
    Calls Try.prog 6 #[.slice a n cap, .int .i64 v] w fun e w' => e = .returned (.bool false) ∧ w' = w := by
  go_enter Try.func6, Try.ntmps6
  go_wp2_with fail
  go_ret
  exact ⟨rfl, rfl⟩
theorem bytes6_nil (v : Int) (w : World) :
    Calls Try.prog 6 #[.slice none 0 0, .int .i64 v] w fun e w' => e = .returned (.bool true) ∧ w' = w := by
  go_enter Try.func6, Try.ntmps6
  go_wp2_with fail
  go_loop [5, 6] (fun zn zi => zn = .int .i64 0 ∧ zi = .int .i64 0) (fun _ _ => 0)
  case atStart => exact ⟨rfl, rfl⟩
  case round =>
    obtain ⟨rfl, rfl⟩ := hrel
    go_wp2_with fail
    go_ret
    exact ⟨rfl, rfl⟩

/-- textsWithin. -/
theorem within_some (a : Addr) (n cap : Nat) (ss : List ByteArray) (w : World) (hn : n ≤ ss.length) (hc : ∀ j, j < ss.length → w.cell? (a.add j) = some (.string (ss.getD j ByteArray.empty)))
    (hs : ∀ j, j < n → szAt ss j ≤ 1048576) (hl : (n : Int) ≤ 1048576) :
    Calls Try.prog 7 #[.slice (some a) n cap, .int .i64 1048576] w (Ans7 w) := by
  have HC := hide (And.intro hn (And.intro hc hs))
  obtain ⟨ab, ao, az⟩ := a
  clear hn hc hs
  go_enter Try.func7, Try.ntmps7
  go_wp2_with fail
  go_loop [5, 6] (fun zn zi => ∃ (t k : Nat), zn = .int .i64 t ∧ zi = .int .i64 k ∧ t ≤ 1048576 ∧ k ≤ n) (fun _ zi => n - (intOf zi).toNat)
  case atStart => exact ⟨0, 0, rfl, rfl, by omega, by omega⟩
  case round =>
    obtain ⟨t, k, rfl, rfl, ht, hk⟩ := hrel
    by_cases hlt : k < n
    · have hcell := (unhide HC).2.1 k (Nat.lt_of_lt_of_le hlt (unhide HC).1)
      have hsz := (unhide HC).2.2 k hlt
      unfold szAt at hsz
      obtain ⟨s, hs⟩ : ∃ s, s = ss.getD k ByteArray.empty := ⟨_, rfl⟩
      rw [← hs] at hcell hsz
      clear hs
      by_cases h2 : (1048576 : Int) < (t : Int) + (16 + s.size)
      · go_wp2_with fail
        go_ret
        exact ans7 false rfl rfl
      · go_wp2_with fail
        go_round
        case rel => exact ⟨t + (16 + s.size), k + 1, by go_num, by go_num, by omega, by omega⟩
        case measure => simp [intOf]; omega
    · have hkn : k = n := by omega
      subst hkn
      go_wp2_with fail
      go_ret
      exact ans7 true rfl rfl
theorem within_nil (w : World) :
    Calls Try.prog 7 #[.slice none 0 0, .int .i64 1048576] w fun e w' => e = .returned (.bool true) ∧ w' = w := by
  go_enter Try.func7, Try.ntmps7
  go_wp2_with fail
  go_loop [5, 6] (fun zn zi => zn = .int .i64 0 ∧ zi = .int .i64 0) (fun _ _ => 0)
  case atStart => exact ⟨rfl, rfl⟩
  case round =>
    obtain ⟨rfl, rfl⟩ := hrel
    go_wp2_with fail
    go_ret
    exact ⟨rfl, rfl⟩

/-- textOf, ZZtextOf. -/
theorem textOf_out (a : Option Addr) (n cap : Nat) (v : Int) (w : World) (hn : n ≤ 9223372036854775807) (hv : v ≤ 0 ∨ (n : Int) ≤ v) :
    Calls Try.prog 14 #[.slice a n cap, .int .i64 v] w fun e w' => e = .returned (.tuple #[.string ByteArray.empty, .bool false]) ∧ w' = w := by
  have hv' : v ≤ 0 ∨ (0 < v ∧ (n : Int) ≤ v) := by omega
  clear hv
  rcases hv' with hv | ⟨h0, hv⟩
  all_goals
    go_enter Try.func14, Try.ntmps14
    go_wp2_with fail
    go_ret2
    exact ⟨rfl, rfl⟩
theorem textOf_in (a : Addr) (n cap v : Nat) (s : ByteArray) (w : World) (hn : n ≤ 9223372036854775807) (h0 : 0 < v) (hv : v < n) (hc : w.cell? (a.add v) = some (.string s)) :
    Calls Try.prog 14 #[.slice (some a) n cap, .int .i64 v] w fun e w' => e = .returned (.tuple #[.string s, .bool true]) ∧ w' = w := by
  obtain ⟨ab, ao, az⟩ := a
  go_enter Try.func14, Try.ntmps14
  go_wp2_with fail
  go_ret2
  exact ⟨rfl, rfl⟩
theorem zzTextOf_out (a : Option Addr) (n cap : Nat) (v : Int) (w : World) (hn : n ≤ 9223372036854775807) (hv : v ≤ 0 ∨ (n : Int) ≤ v) :
    Calls Try.prog 8 #[.slice a n cap, .int .i64 v] w fun e w' => e = .returned (.tuple #[.string ByteArray.empty, .bool false]) ∧ w' = w := by
  have H := hide (textOf_out a n cap v w hn hv)
  clear hn hv
  go_enter Try.func8, Try.ntmps8
  go_wp2_with fail
  refine (unhide H).mono ?_
  rintro e w' ⟨rfl, rfl⟩
  go_wp2_with fail
  go_ret2
  exact ⟨rfl, rfl⟩
theorem zzTextOf_in (a : Addr) (n cap v : Nat) (s : ByteArray) (w : World) (hn : n ≤ 9223372036854775807) (h0 : 0 < v) (hv : v < n) (hc : w.cell? (a.add v) = some (.string s)) :
    Calls Try.prog 8 #[.slice (some a) n cap, .int .i64 v] w fun e w' => e = .returned (.tuple #[.string s, .bool true]) ∧ w' = w := by
  have H := hide (textOf_in a n cap v s w hn h0 hv hc)
  clear hn hv hc h0
  go_enter Try.func8, Try.ntmps8
  go_wp2_with fail
  refine (unhide H).mono ?_
  rintro e w' ⟨rfl, rfl⟩
  go_wp2_with fail
  go_ret2
  exact ⟨rfl, rfl⟩
end Go.Proofs.Qxb6613096a
