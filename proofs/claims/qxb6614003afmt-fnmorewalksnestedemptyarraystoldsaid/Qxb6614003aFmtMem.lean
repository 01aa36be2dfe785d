/-
  THE WALKS THAT MAKE MEMORY: jpClone, ZZnewReader, slices.Grow.
-/
import Derived.Test.Qxb6614003aFmtBase
import Derived.Laws.CopyRow
import Derived.Laws.CopyOwn
import Derived.Deep.OwnRows
import Derived.Lib.AppendZeros
import Derived.WalkLawsBesides
namespace Go.Proofs.Qxb6614003aFmt
open Go.RowKit

/-- A row of bytes, as cells. -/
def U (zs : List Int) : List Value := zs.map (Value.int .u8)
theorem U_length (zs : List Int) : (U zs).length = zs.length := by simp [U]
theorem U_get (zs : List Int) (j : Nat) (h : j < zs.length) : (U zs)[j]? = some (.int .u8 (zs.getD j 0)) := by simp [U, List.getD, h]
theorem U_one (zs : List Int) : ∀ v ∈ U zs, v.oneCell' = true := by
  intro v hv
  obtain ⟨z, _, rfl⟩ := List.mem_map.1 hv
  rfl

theorem Tryf.info5 : (Tryf.prog.info? 5).map (fun i => (i.zero, i.size, i.bytes)) = some (some (.int .u8 0), 1, 1) := by kernel_rfl
theorem Tryf.size5 : (Tryf.prog.info? 5).map (·.size) = some 1 := by kernel_rfl

theorem lt_of_cell {w : World} {a : Addr} {v : Value} (h : w.cell? a = some v) : a.block < w.heap.size := by
  rcases Nat.lt_or_ge a.block w.heap.size with h1 | h1
  · exact h1
  · simp [World.cell?, Array.getElem?_eq_none h1] at h

theorem heap_new (w : World) (o : Obj) : (w.alloc o).heap[w.heap.size]? = some o := by
  show (w.heap.push o)[w.heap.size]? = _
  simp

/-- jpClone of nil. -/
theorem clone_nil (w : World) :
    Calls Tryf.prog 10 #[.slice none 0 0] w fun e w' => e = .returned (.slice none 0 0) ∧ w' = w := by
  have h := fun wx => Lib.run_eql_slice_nil (P := Tryf.prog) wx 22 5 none 0 0 0 0 Tryf.underlying22
  go_enter Tryf.func10, Tryf.ntmps10
  go_wp2
  go_ret
  exact ⟨rfl, rfl⟩

/-- jpClone of a slice that is not nil: a new row of the same bytes. -/
theorem clone_some (a : Addr) (cap : Nat) (zs : List Int) (w : World) (hl : zs.length ≤ 1000000000)
    (hc : ∀ j, j < zs.length → w.cell? (a.add j) = some (.int .u8 (zs.getD j 0))) :
    Calls Tryf.prog 10 #[.slice (some a) zs.length cap] w fun e w' => e = .returned (.slice (some ⟨w.heap.size, 0, none⟩) zs.length zs.length) ∧
      w' = (w.alloc (.cells (madeCells #[.int .u8 0] zs.length) 5)).setRow w.heap.size (U zs).toArray := by
  obtain ⟨n, hn⟩ : ∃ n, n = zs.length := ⟨_, rfl⟩
  have h := fun wx => Lib.run_eql_slice_nil (P := Tryf.prog) wx 22 5 (some a) n cap 0 0 Tryf.underlying22
  have hmk := fun wx => run_make_row' (P := Tryf.prog) 22 5 (.int .u8 0) 1 Tryf.underlying22 Tryf.info5 rfl .i64 .i64 n (by omega) (by omega) wx
  have hcp := fun ty => run_copy_row Tryf.prog (w.alloc (.cells (madeCells #[.int .u8 0] n) 5)) 22 22 ty 5 w.heap.size 0 n n a n cap (madeCells #[.int .u8 0] n) 5 (U zs) Tryf.underlying22 Tryf.size5
    (heap_new _ _) (by rw [U_length, hn]; simp [Nat.min]) (fun j v hj => by
      have hj' : j < zs.length := by
        rcases Nat.lt_or_ge j zs.length with h1 | h1
        · exact h1
        · rw [List.getElem?_eq_none (by rw [U_length]; exact h1)] at hj; cases hj
      rw [U_get zs j hj'] at hj
      cases hj
      have := hc j hj'
      rw [World.cell?_alloc_lt _ _ _ (lt_of_cell this)]
      exact this) (by simp [U_length, size_madeCells, hn]) (U_one zs)
  have e1 : ((madeCells #[.int .u8 0] n).toList.take 0 ++ U zs ++ (madeCells #[.int .u8 0] n).toList.drop (0 + (U zs).length)) = U zs := by
    simp [U_length, size_madeCells, hn]
  rw [e1] at hcp
  clear e1 hc
  rw [← hn]
  have HN : Hid (n = zs.length) := hn
  clear hn
  go_enter Tryf.func10, Tryf.ntmps10
  go_wp2
  go_ret
  exact ⟨rfl, rfl⟩

/-- ZZnewReader: two new blocks: the bytes.Reader, the Reader. -/
theorem newReader_any (v : Value) (a : Option Addr) (n cap : Nat) (hv : v = .slice a n cap) (w : World) :
    Calls Tryf.prog 12 #[v] w fun e w' => e = .returned (.pointer (some ⟨w.heap.size + 1, 0, none⟩)) ∧
      w' = (w.alloc (.cells #[v, .int .i64 0, .int .i64 (-1)] 57)).alloc (.cells #[.iface 44 (.pointer (some ⟨w.heap.size, 0, none⟩)), .slice none 0 0, .int .i64 0, .int .i64 0, .int .i64 0, .bool false, .nilIface] 49) := by
  subst hv
  go_enter Tryf.func12, Tryf.ntmps12
  go_wp2
  go_ret
  exact ⟨rfl, rfl⟩

/-- slices.Grow where there is room. -/
theorem grow_room (a : Option Addr) (c : Nat) (m : Int) (w : World) (hm0 : 0 ≤ m) (hc : m ≤ c) (hm : c ≤ 9223372036854775807) :
    Calls Tryf.prog 34 #[.slice a 0 c, .int .i64 m] w fun e w' => e = .returned (.slice a 0 c) ∧ w' = w := by
  go_enter Tryf.func34, Tryf.ntmps34
  go_wp2
  go_ret
  exact ⟨rfl, rfl⟩

/-- slices.Grow of nil: a new row, drawn as large as the tape says, 32768 cells at least. -/
theorem grow_nil (w : World) :
    Calls Tryf.prog 34 #[.slice none 0 0, .int .i64 32768] w fun e w' => ∃ (C : Nat) (arr : Array Value), 32768 ≤ C ∧ C ≤ 9223372036854775807 ∧ arr.size = C ∧
      e = .returned (.slice (some ⟨w.heap.size, 0, none⟩) 0 C) ∧ w' = (w.alloc (.cells arr 5)).drew := by
  obtain ⟨i, hi, hzz⟩ := Option.map_eq_some_iff.1 Tryf.info5
  simp only [Prod.mk.injEq] at hzz
  obtain ⟨hz, hs, hb⟩ := hzz
  have hr := fun ty => Lib.run_append_nil_zeros (P := Tryf.prog) w 22 3 ty 5 i (.int .u8 0) .i64 .i64 Tryf.underlying22 Tryf.underlying3 hi hz 32768 (by omega) (by omega) (by omega) (by rw [hb]; omega)
  have hge := grownCap_ge w 32768 0 5
  have hle := grownCap_le_maxLen w 32768 0 5 (by unfold maxLen; omega)
  obtain ⟨C, hC⟩ : ∃ C, C = grownCap w 32768 0 5 := ⟨_, rfl⟩
  obtain ⟨arr, ha⟩ : ∃ arr, arr = (Builtin.zeroCells (Value.int .u8 0).cells 32768 ++ Builtin.zeroCells (Value.int .u8 0).cells (grownCap w 32768 0 5 - 32768)) := ⟨_, rfl⟩
  have hsz : arr.size = C := by
    rw [ha, hC, Array.size_append, size_zeroCells, size_zeroCells]
    show 32768 * 1 + (grownCap w 32768 0 5 - 32768) * 1 = _
    omega
  rw [← ha, ← hC] at hr
  rw [← hC] at hge hle
  unfold maxLen at hle
  have HS : Hid (arr.size = C) := hsz
  clear hC ha hsz hz hs hb hi
  go_enter Tryf.func34, Tryf.ntmps34
  go_wp2_with (at_builtin; refine Lib.wpList_append_run _ rfl _ _ _ _ rfl _ _ rfl rfl _ _ (hr _) ?_)
  all_goals (go_ret; exact ⟨C, arr, hge, hle, HS.out, rfl, rfl⟩)
end Go.Proofs.Qxb6614003aFmt
