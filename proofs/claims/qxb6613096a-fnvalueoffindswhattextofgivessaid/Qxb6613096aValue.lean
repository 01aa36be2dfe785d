/-
  FnValueOfFindsWhatTextOfGives: the walk, way by way.
-/
import Derived.Test.Qxb6613096aFind
namespace Go.Proofs.Qxb6613096a
open Go.RowKit
set_option linter.unusedVariables false

set_option maxRecDepth 100000 in
set_option maxHeartbeats 1000000 in
theorem value_some (a : Addr) (cap n : Nat) (ss : List ByteArray) (v : Int) (w : World) (hn : n = ss.length) (hl : (n : Int) ≤ 1048576) (hs : ∀ j, szAt ss j ≤ 9223372036854775807)
    (hc : ∀ j, j < ss.length → w.cell? (a.add j) = some (.string (ss.getD j ByteArray.empty))) :
    Calls Try.prog 3 #[.slice (some a) n cap, .int .i64 v] w fun e w' => e = .returned (.bool true) ∧ Below w.heap.size w w' := by
  have h := fun wx => run_neq_slice_nil (P := Try.prog) wx 22 9 (some a) n cap Try.underlying22
  have hmk := fun wx => run_make_row' (P := Try.prog) 22 9 (.string ByteArray.empty) 16 Try.underlying22 Try.info9 rfl .i64 .i64 n (by omega) (by omega) wx
  have hcp := fun ty => run_copy_row Try.prog (w.alloc (.cells (madeCells #[.string ByteArray.empty] n) 9)) 22 22 ty 9 w.heap.size 0 n n a n cap (madeCells #[.string ByteArray.empty] n) 9 (S ss) Try.underlying22 Try.size9
    (heap_new _ _) (by rw [S_length, hn]; simp [Nat.min]) (fun j v hj => by
      have hj' : j < ss.length := by
        rcases Nat.lt_or_ge j ss.length with h1 | h1
        · exact h1
        · rw [List.getElem?_eq_none (by rw [S_length]; exact h1)] at hj; cases hj
      rw [S_get ss j hj'] at hj
      cases hj
      have := hc j hj'
      rw [World.cell?_alloc_lt _ _ _ (lt_of_cell this)]
      exact this) (by simp [S_length, size_madeCells, hn]) (S_one ss)
  have e1 : ((madeCells #[.string ByteArray.empty] n).toList.take 0 ++ S ss ++ (madeCells #[.string ByteArray.empty] n).toList.drop (0 + (S ss).length)) = S ss := by
    simp [S_length, size_madeCells, hn]
  rw [e1] at hcp
  have hh := setRow_heap (w.alloc (.cells (madeCells #[.string ByteArray.empty] n) 9)) w.heap.size _ (S ss).toArray 9 _ (heap_new w _)
  have hb := below_setRow ((Below.refl w.heap.size w).alloc (Nat.le_refl _) (.cells (madeCells #[.string ByteArray.empty] n) 9)) (Nat.le_refl _) (S ss).toArray
  have HH := hide (And.intro hh hb)
  have H6 := hide (bytes6_some a n cap v ss w (by omega) hc hs hl)
  have HC := hide hc
  clear e1 hc hh hb hs
  have HN : Hid (n = ss.length) := hn
  clear hn
  have HCP := hide hcp
  clear hcp
  go_enter Try.func3, Try.ntmps3
  go_wp2_with fail
  refine (unhide H6).mono ?_
  rintro e w' ⟨b, rfl, rfl, h6⟩
  cases b with
  | false =>
    go_wp2_with fail
    go_ret
    exact ⟨rfl, Below.refl _ _⟩
  | true =>
    have H7 := hide (within_some a n cap ss w' (by rw [← unhide HN]; exact Nat.le_refl _) (unhide HC) (h6 rfl) hl)
    clear h6
    go_wp2_with fail
    refine (unhide H7).mono ?_
    rintro e w' ⟨b, rfl, rfl⟩
    cases b with
    | false =>
      go_wp2_with fail
      go_ret
      exact ⟨rfl, Below.refl _ _⟩
    | true =>
      have hcp := unhide HCP
      go_wp2_with fail
      obtain ⟨w2, hw2⟩ : ∃ w2, w2 = (w'.alloc (.cells (madeCells #[.string ByteArray.empty] n) 9)).setRow w'.heap.size (S ss).toArray := ⟨_, rfl⟩
      rw [← hw2] at HH ⊢
      clear hcp HCP hmk h hw2 H6 H7 HC
      have hrow : ∀ j, j < ss.length → w2.cell? ⟨w'.heap.size, 0 + j, none⟩ = some (.string (ss.getD j ByteArray.empty)) := fun j hj => by
        rw [cell_of (unhide HH).1, List.getElem?_toArray, Nat.zero_add, S_get ss j hj]
      have HR := hide hrow
      clear hrow
      have hnm : n ≤ 9223372036854775807 := by omega
      by_cases hv : v ≤ 0 ∨ (n : Int) ≤ v
      · refine (zzTextOf_out (some ⟨w'.heap.size, 0, none⟩) n n v w2 hnm hv).mono ?_
        rintro e w2 ⟨rfl, rfl⟩
        have hv' : v ≤ 0 ∨ (0 < v ∧ (n : Int) ≤ v) := by omega
        clear hv
        rcases hv' with hv | ⟨h0, hv⟩
        all_goals
          go_wp2_with fail
          go_ret
          exact ⟨rfl, (unhide HH).2⟩
      · obtain ⟨p, rfl⟩ : ∃ p : Nat, v = (p : Int) := ⟨v.toNat, by omega⟩
        have hp0 : 0 < p := by omega
        have hpn : p < n := by omega
        obtain ⟨x, hx⟩ : ∃ x, x = ss.getD p ByteArray.empty := ⟨_, rfl⟩
        have hcell : w2.cell? ⟨w'.heap.size, p, none⟩ = some (.string x) := by
          have := unhide HR p (by rw [← unhide HN]; exact hpn)
          rw [Nat.zero_add, ← hx] at this
          exact this
        have HX := hide hx
        clear hx hv
        refine (zzTextOf_in ⟨w'.heap.size, 0, none⟩ n n p x w2 hnm hp0 hpn (by rw [add_none, Nat.zero_add]; exact hcell)).mono ?_
        rintro e w2 ⟨rfl, rfl⟩
        have hnp : decide (n ≤ p) = false := decide_eq_false (by omega)
        go_wp2_with fail
        obtain ⟨c, w3, hc1, hb3, hc2⟩ := back x w2
        rw [hc1]
        obtain ⟨k, hkp, hat, hne⟩ := first_at ss x p (unhide HX).symm
        have hlt2 : w'.heap.size < w2.heap.size := (Array.getElem?_eq_some_iff.1 (unhide HH).1).1
        have hrow3 : ∀ j, j < ss.length → w3.cell? ⟨w'.heap.size, 0 + j, none⟩ = some (.string (ss.getD j ByteArray.empty)) := fun j hj => by
          rw [hb3.cell hlt2]
          exact unhide HR j hj
        have hkn : k < n := by omega
        have hck : w3.cell? ⟨w'.heap.size, k, none⟩ = some (.string x) := by
          have := hrow3 k (by rw [← unhide HN]; exact hkn)
          rw [Nat.zero_add, hat] at this
          exact this
        obtain ⟨f, hf⟩ : ∃ f : Bool, (k = 0 ∧ f = false) ∨ (0 < k ∧ f = true) := by
          by_cases h0 : k = 0
          · exact ⟨false, .inl ⟨h0, rfl⟩⟩
          · exact ⟨true, .inr ⟨by omega, rfl⟩⟩
        have HV := hide (zzValueOf_at w'.heap.size n n w2.heap.size c k x.size f hf ss x w3 (unhide HN) (by omega) hrow3 hc2 hkn hat hne)
        have hfin : Below w'.heap.size w' w3 := (unhide HH).2.trans (hb3.mono (Nat.le_of_lt hlt2))
        have H3 := hide (And.intro hrow3 (And.intro hfin hne))
        clear hrow3 hfin hne hat hc1 hc2 hb3 hlt2 HR HH hcell HX
        go_wp2_with fail
        refine (unhide HV).mono ?_
        rintro e w3 ⟨rfl, rfl⟩
        clear HV
        have hpk : decide (p < k) = false := decide_eq_false (by omega)
        rcases hf with ⟨rfl, rfl⟩ | ⟨h0, rfl⟩
        · go_wp2_with fail
          go_loop [10] (fun t => t = .int .i64 0) (fun t => 0)
          case atStart => rfl
          case round =>
            subst hrel
            go_wp2_with fail
            go_ret
            exact ⟨rfl, (unhide H3).2.1⟩
        · have hk0 : decide ((k : Int) < 0) = false := decide_eq_false (by omega)
          go_wp2_with fail
          go_loop [10] (fun t => ∃ j : Nat, j ≤ k ∧ t = .int .i64 j) (fun t => k - (intOf t).toNat)
          case atStart => exact ⟨0, by omega, rfl⟩
          case round =>
            obtain ⟨j, hjk, rfl⟩ := hrel
            by_cases hlt : j < k
            · obtain ⟨y, hy⟩ : ∃ y, y = ss.getD j ByteArray.empty := ⟨_, rfl⟩
              have hcy : w3.cell? ⟨w'.heap.size, j, none⟩ = some (.string y) := by
                have := (unhide H3).1 j (by rw [← unhide HN]; omega)
                rw [Nat.zero_add, ← hy] at this
                exact this
              have hyx : (y.toList == x.toList) = false := (Lib.bytes_beq_false_iff _ _).2 (by rw [hy]; exact (unhide H3).2.2 j hlt)
              clear hy
              go_wp2_with fail
              go_round
              case rel => exact ⟨j + 1, by omega, by go_num⟩
              case measure => simp [intOf]; omega
            · obtain rfl : j = k := by omega
              go_wp2_with fail
              go_ret
              exact ⟨rfl, (unhide H3).2.1⟩

set_option maxRecDepth 100000 in
set_option maxHeartbeats 1000000 in
theorem value_nil (v : Int) (w : World) :
    Calls Try.prog 3 #[.slice none 0 0, .int .i64 v] w fun e w' => e = .returned (.bool true) ∧ Below w.heap.size w w' := by
  have h := fun wx => run_neq_slice_nil (P := Try.prog) wx 22 9 none 0 0 Try.underlying22
  have hv : v ≤ 0 ∨ (0 < v ∧ ((0 : Nat) : Int) ≤ v) := by omega
  rcases hv with hv | ⟨h0, hv⟩
  all_goals
    have HT := hide (fun wx => zzTextOf_out none 0 0 v wx (by omega) (by omega))
    go_enter Try.func3, Try.ntmps3
    go_wp2_with fail
    refine (bytes6_nil v w).mono ?_
    rintro e w' ⟨rfl, rfl⟩
    go_wp2_with fail
    refine (within_nil w').mono ?_
    rintro e w' ⟨rfl, rfl⟩
    go_wp2_with fail
    refine (unhide HT w').mono ?_
    rintro e w' ⟨rfl, rfl⟩
    go_wp2_with fail
    go_ret
    exact ⟨rfl, Below.refl _ _⟩
theorem value_big (a : Option Addr) (n cap : Nat) (v : Int) (w : World) (hn : n ≤ 9223372036854775807) (hl : (1048576 : Int) < n) :
    Calls Try.prog 3 #[.slice a n cap, .int .i64 v] w fun e w' => e = .returned (.bool true) ∧ Below w.heap.size w w' := by
  go_enter Try.func3, Try.ntmps3
  go_wp2_with fail
  refine (bytes6_big a n cap v w hn hl).mono ?_
  rintro e w' ⟨rfl, rfl⟩
  go_wp2_with fail
  go_ret
  exact ⟨rfl, Below.refl _ _⟩
end Go.Proofs.Qxb6613096a
