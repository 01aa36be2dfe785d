/-
  FnSkipSpaceStopsAtFirstNonSpace: the walk, way by way.
-/
import Derived.Test.Qxb6613096aBase
import Derived.Laws.CopyRow
import Derived.Laws.CopyOwn
import Derived.Deep.OwnRows
import Derived.WalkLawsBesides
namespace Go.Proofs.Qxb6613096a
open Go.RowKit
set_option linter.unusedVariables false

/-- A row of bytes, as cells. -/
def U (zs : List Int) : List Value := zs.map (Value.int .u8)
theorem U_length (zs : List Int) : (U zs).length = zs.length := by simp [U]
theorem U_get (zs : List Int) (j : Nat) (h : j < zs.length) : (U zs)[j]? = some (.int .u8 (zs.getD j 0)) := by simp [U, List.getD, h]
theorem U_one (zs : List Int) : ∀ v ∈ U zs, v.oneCell' = true := by
  intro v hv
  obtain ⟨z, _, rfl⟩ := List.mem_map.1 hv
  rfl
theorem Try.info5 : (Try.prog.info? 5).map (fun i => (i.zero, i.size, i.bytes)) = some (some (.int .u8 0), 1, 1) := by kernel_rfl
theorem Try.size5 : (Try.prog.info? 5).map (·.size) = some 1 := by kernel_rfl
theorem lt_of_cell {w : World} {a : Addr} {v : Value} (h : w.cell? a = some v) : a.block < w.heap.size := by
  rcases Nat.lt_or_ge a.block w.heap.size with h1 | h1
  · exact h1
  · simp [World.cell?, Array.getElem?_eq_none h1] at h
theorem heap_new (w : World) (o : Obj) : (w.alloc o).heap[w.heap.size]? = some o := by
  show (w.heap.push o)[w.heap.size]? = _
  simp
theorem add_none (b o j : Nat) : (⟨b, o, none⟩ : Addr).add j = ⟨b, o + j, none⟩ := by unfold Addr.add; split <;> simp_all
theorem cell_of {w : World} {b : Nat} {cs : Array Value} {t : TypeId} (h : w.heap[b]? = some (.cells cs t (0, 0))) (o : Nat) : w.cell? ⟨b, o, none⟩ = cs[o]? := by
  simp [World.cell?, h]

theorem black_byte (b : Int) (h1 : 33 ≤ b) (h2 : b < 256) : Pl.isSp b = false := by
  have a1 : (b == 32) = false := beq_eq_false_iff_ne.2 (by omega)
  have a2 : (b == 9) = false := beq_eq_false_iff_ne.2 (by omega)
  have a3 : (b == 10) = false := beq_eq_false_iff_ne.2 (by omega)
  have a4 : (b == 13) = false := beq_eq_false_iff_ne.2 (by omega)
  unfold Pl.isSp
  rw [a1, a2, a3, a4]; rfl

theorem zzIsSpace_eq (c : Int) (b : Bool) (h : Pl.isSp c = b) (w : World) :
    Calls Try.prog 12 #[.int .u8 c] w fun e w' => e = .returned (.bool b) ∧ w' = w := by
  rw [← h]; exact zzIsSpace_any c w
theorem wrap_byte (b : Nat) (h : b < 256) : IntKind.wrap .u8 (b : Int) = (b : Int) := by
  simp [IntKind.wrap, IntKind.bits, IntKind.signed]
  omega
set_option maxRecDepth 100000 in
set_option maxHeartbeats 1000000 in
theorem skip_some (a : Addr) (cap n : Nat) (zs : List Int) (i : Nat) (w : World) (hn : n = zs.length) (hl : (n : Int) ≤ 1048576) (hi : i ≤ n)
    (hc : ∀ j, j < zs.length → w.cell? (a.add j) = some (.int .u8 (zs.getD j 0))) :
    Calls Try.prog 5 #[.slice (some a) n cap, .int .i64 i] w fun e w' => e = .returned (.bool true) ∧ Below w.heap.size w w' := by
  have h := fun wx => run_neq_slice_nil (P := Try.prog) wx 28 5 (some a) n cap Try.underlying28
  have hmk := fun wx => run_make_row' (P := Try.prog) 28 5 (.int .u8 0) 1 Try.underlying28 Try.info5 rfl .i64 .i64 n (by omega) (by omega) wx
  have hcp := fun ty => run_copy_row Try.prog (w.alloc (.cells (madeCells #[.int .u8 0] n) 5)) 28 28 ty 5 w.heap.size 0 n n a n cap (madeCells #[.int .u8 0] n) 5 (U zs) Try.underlying28 Try.size5
    (heap_new _ _) (by rw [U_length, hn]; simp [Nat.min]) (fun j v hj => by
      have hj' : j < zs.length := by
        rcases Nat.lt_or_ge j zs.length with h1 | h1
        · exact h1
        · rw [List.getElem?_eq_none (by rw [U_length]; exact h1)] at hj; cases hj
      rw [U_get zs j hj'] at hj
      cases hj
      have := hc j hj'
      rw [World.cell?_alloc_lt _ _ _ (lt_of_cell this)]
      exact this) (by simp [U_length, size_madeCells, hn]) (U_one zs)
  have e1 : ((madeCells #[.int .u8 0] n).toList.take 0 ++ U zs ++ (madeCells #[.int .u8 0] n).toList.drop (0 + (U zs).length)) = U zs := by
    simp [U_length, size_madeCells, hn]
  rw [e1] at hcp
  have hh := setRow_heap (w.alloc (.cells (madeCells #[.int .u8 0] n) 5)) w.heap.size _ (U zs).toArray 5 _ (heap_new w _)
  have hb := below_setRow ((Below.refl w.heap.size w).alloc (Nat.le_refl _) (.cells (madeCells #[.int .u8 0] n) 5)) (Nat.le_refl _) (U zs).toArray
  have HH := hide (And.intro hh hb)
  clear e1 hc hh hb
  have HN : Hid (n = zs.length) := hn
  clear hn
  go_enter Try.func5, Try.ntmps5
  go_wp2_with fail
  refine (bytes11_yes _ n cap _ w hl).mono ?_
  rintro e w' ⟨rfl, rfl⟩
  go_wp2_with fail
  obtain ⟨w2, hw2⟩ : ∃ w2, w2 = (w'.alloc (.cells (madeCells #[.int .u8 0] n) 5)).setRow w'.heap.size (U zs).toArray := ⟨_, rfl⟩
  rw [← hw2] at HH ⊢
  clear hcp hmk h hw2
  refine (zzIsSpace_eq 32 true rfl w2).mono ?_
  rintro e w2 ⟨rfl, rfl⟩
  have hfin : Below w'.heap.size w' w2 := (unhide HH).2
  have hrow : ∀ j, j < zs.length → w2.cell? ((⟨w'.heap.size, 0, none⟩ : Addr).add j) = some (.int .u8 (zs.getD j 0)) := fun j hj => by
    rw [add_none, cell_of (unhide HH).1, List.getElem?_toArray, Nat.zero_add, U_get zs j hj]
  have HR := hide hrow
  have HF := hide hfin
  clear hrow hfin HH
  go_wp2_with fail
  go_loop [6] (fun t => ∃ b : Nat, 33 ≤ b ∧ b ≤ 256 ∧ t = .int .i64 b) (fun t => 256 - (intOf t).toNat)
  case atStart => exact ⟨33, by omega, by omega, rfl⟩
  case round =>
    obtain ⟨b, hb1, hb2, rfl⟩ := hrel
    by_cases hlt : b < 256
    · have hw : IntKind.wrap .u8 (b : Int) = (b : Int) := wrap_byte b (by omega)
      have HB := hide (black_byte (b : Int) (by omega) (by omega))
      go_wp2_with fail
      refine (zzIsSpace_eq (b : Int) false (unhide HB) w2).mono ?_
      rintro e w2 ⟨rfl, rfl⟩
      go_wp2_with fail
      go_round
      case rel => exact ⟨b + 1, by omega, by omega, by go_num⟩
      case measure => simp [intOf]; omega
    · have hb : b = 256 := by omega
      subst hb
      obtain ⟨j, hj⟩ : ∃ j, j = Pl.nns zs i := ⟨_, rfl⟩
      have hge : i ≤ j := by rw [hj]; exact Pl.nns_ge zs i
      have hle : j ≤ n := by rw [hj, unhide HN]; exact Pl.nns_le zs i (by rw [← unhide HN]; exact hi)
      have hzl : zs.length ≤ 1000000000 := by have := unhide HN; omega
      have H1 := hide (zzSkip_any (some ⟨w'.heap.size, 0, none⟩) n n zs i w2 (unhide HN) (by rw [← unhide HN]; exact hi) hzl (fun b hb j hj => by cases hb; exact unhide HR j hj) (fun h => by cases h))
      have H2 := hide (zzSkip_any (some ⟨w'.heap.size, 0, none⟩) n n zs j w2 (unhide HN) (by rw [← unhide HN]; exact hle) hzl (fun b hb j hj => by cases hb; exact unhide HR j hj) (fun h => by cases h))
      rw [← hj] at H1
      rw [show Pl.nns zs j = j by rw [hj]; exact Pl.nns_idem zs i] at H2
      have HJ := hide hj
      clear hj hzl hlt
      have hji : decide (j < i) = false := decide_eq_false (by omega)
      have hnj : decide (n < j) = false := decide_eq_false (by omega)
      go_wp2_with fail
      refine (unhide H1).mono ?_
      rintro e w2 ⟨rfl, rfl⟩
      go_wp2_with fail
      go_loop [8] (fun t => ∃ k : Nat, i ≤ k ∧ k ≤ j ∧ t = .int .i64 k) (fun t => j - (intOf t).toNat)
      case atStart => exact ⟨i, by omega, by omega, rfl⟩
      case round =>
        obtain ⟨k, hk1, hk2, rfl⟩ := hrel
        by_cases hlt : k < j
        · have hkz : k < zs.length := by rw [← unhide HN]; omega
          have hcell := unhide HR k hkz
          rw [add_none, Nat.zero_add] at hcell
          obtain ⟨z, hz⟩ : ∃ z, z = zs.getD k 0 := ⟨_, rfl⟩
          rw [← hz] at hcell
          have HS : Hid (Pl.isSp z = true) := by rw [hz]; exact Pl.white zs i k hk1 (by rw [← unhide HJ]; exact hlt)
          have HZ := hide (And.intro hz hkz)
          clear hz hkz
          go_wp2_with fail
          refine (zzIsSpace_eq z true (unhide HS) w2).mono ?_
          rintro e w2 ⟨rfl, rfl⟩
          go_wp2_with fail
          go_round
          case rel => exact ⟨k + 1, by omega, by omega, by go_num⟩
          case measure => simp [intOf]; omega
        · have hkj : k = j := by omega
          subst hkj
          by_cases hend : k < n
          · have hkz : k < zs.length := by rw [← unhide HN]; exact hend
            have hcell := unhide HR k hkz
            rw [add_none, Nat.zero_add] at hcell
            obtain ⟨z, hz⟩ : ∃ z, z = zs.getD k 0 := ⟨_, rfl⟩
            rw [← hz] at hcell
            have HS : Hid (Pl.isSp z = false) := by rw [hz, unhide HJ]; exact Pl.black zs i (by rw [← unhide HJ]; exact hkz)
            have HZ := hide (And.intro hz hkz)
            clear hz hkz
            go_wp2_with fail
            refine (zzIsSpace_eq z false (unhide HS) w2).mono ?_
            rintro e w2 ⟨rfl, rfl⟩
            go_wp2_with fail
            refine (unhide H2).mono ?_
            rintro e w2 ⟨rfl, rfl⟩
            go_wp2_with fail
            go_ret
            exact ⟨rfl, unhide HF⟩
          · have hkn : k = n := by omega
            subst hkn
            go_wp2_with fail
            refine (unhide H2).mono ?_
            rintro e w2 ⟨rfl, rfl⟩
            go_wp2_with fail
            go_ret
            exact ⟨rfl, unhide HF⟩

set_option maxRecDepth 100000 in
set_option maxHeartbeats 1000000 in
theorem skip_nil (w : World) :
    Calls Try.prog 5 #[.slice none 0 0, .int .i64 0] w fun e w' => e = .returned (.bool true) ∧ Below w.heap.size w w' := by
  have h := fun wx => run_neq_slice_nil (P := Try.prog) wx 28 5 none 0 0 Try.underlying28
  have H1 := fun wx => zzSkip_any none 0 0 [] 0 wx rfl (Nat.le_refl _) (by simp) (fun b hb => by cases hb) (fun _ => rfl)
  have H1 := hide H1
  go_enter Try.func5, Try.ntmps5
  go_wp2_with fail
  refine (bytes11_yes _ 0 0 _ w (by omega)).mono ?_
  rintro e w' ⟨rfl, rfl⟩
  go_wp2_with fail
  refine (zzIsSpace_eq 32 true rfl w').mono ?_
  rintro e w2 ⟨rfl, rfl⟩
  go_wp2_with fail
  go_loop [6] (fun t => ∃ b : Nat, 33 ≤ b ∧ b ≤ 256 ∧ t = .int .i64 b) (fun t => 256 - (intOf t).toNat)
  case atStart => exact ⟨33, by omega, by omega, rfl⟩
  case round =>
    obtain ⟨b, hb1, hb2, rfl⟩ := hrel
    by_cases hlt : b < 256
    · have hw : IntKind.wrap .u8 (b : Int) = (b : Int) := wrap_byte b (by omega)
      have HB := hide (black_byte (b : Int) (by omega) (by omega))
      go_wp2_with fail
      refine (zzIsSpace_eq (b : Int) false (unhide HB) w2).mono ?_
      rintro e w2 ⟨rfl, rfl⟩
      go_wp2_with fail
      go_round
      case rel => exact ⟨b + 1, by omega, by omega, by go_num⟩
      case measure => simp [intOf]; omega
    · have hb : b = 256 := by omega
      subst hb
      go_wp2_with fail
      refine (unhide H1 w2).mono ?_
      rintro e w2 ⟨rfl, rfl⟩
      rw [show Pl.nns [] 0 = 0 from rfl]
      go_wp2_with fail
      go_loop [8] (fun t => t = .int .i64 0) (fun t => 0)
      case atStart => rfl
      case round =>
        subst hrel
        go_wp2_with fail
        refine (unhide H1 w2).mono ?_
        rintro e w2 ⟨rfl, rfl⟩
        rw [show Pl.nns [] 0 = 0 from rfl]
        go_wp2_with fail
        go_ret
        exact ⟨rfl, Below.refl _ _⟩

/-- The three ways out ahead of the work. -/
theorem skip_big (a : Option Addr) (len cap : Nat) (i : Int) (w : World) (h : (1048576 : Int) < len) (hc : len ≤ 9223372036854775807) :
    Calls Try.prog 5 #[.slice a len cap, .int .i64 i] w fun e w' => e = .returned (.bool true) ∧ Below w.heap.size w w' := by
  go_enter Try.func5, Try.ntmps5
  go_wp2_with fail
  refine (bytes11_no a len cap i w h hc).mono ?_
  rintro e w' ⟨rfl, rfl⟩
  go_wp2_with fail
  go_ret
  exact ⟨rfl, Below.refl _ _⟩
theorem skip_out (a : Option Addr) (len cap : Nat) (i : Int) (w : World) (h : (len : Int) ≤ 1048576) (hi : i < 0 ∨ (len : Int) < i) :
    Calls Try.prog 5 #[.slice a len cap, .int .i64 i] w fun e w' => e = .returned (.bool true) ∧ Below w.heap.size w w' := by
  rcases hi with hi | hi
  all_goals
    go_enter Try.func5, Try.ntmps5
    go_wp2_with fail
    refine (bytes11_yes a len cap i w h).mono ?_
    rintro e w' ⟨rfl, rfl⟩
    go_wp2_with fail
    go_ret
    exact ⟨rfl, Below.refl _ _⟩
end Go.Proofs.Qxb6613096a
