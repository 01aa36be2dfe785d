/-
  valueOf at a text that stands in the list: the first place that holds it; a string to bytes and back.
-/
import Derived.Test.Qxb6613096aTexts
import Derived.Test.Qxb6613096aIndex
import Derived.Laws.IdiomStrings
namespace Go.Proofs.Qxb6613096a
open Go.RowKit
set_option linter.unusedVariables false

/-- A row of strings, as cells. -/
def S (ss : List ByteArray) : List Value := ss.map Value.string
theorem S_length (ss : List ByteArray) : (S ss).length = ss.length := by simp [S]
theorem S_get (ss : List ByteArray) (j : Nat) (h : j < ss.length) : (S ss)[j]? = some (.string (ss.getD j ByteArray.empty)) := by simp [S, List.getD, h]
theorem S_one (ss : List ByteArray) : ∀ v ∈ S ss, v.oneCell' = true := by
  intro v hv
  obtain ⟨z, _, rfl⟩ := List.mem_map.1 hv
  rfl
theorem Try.info9 : (Try.prog.info? 9).map (fun i => (i.zero, i.size, i.bytes)) = some (some (.string ByteArray.empty), 1, 16) := by kernel_rfl
theorem Try.size9 : (Try.prog.info? 9).map (·.size) = some 1 := by kernel_rfl

/-- The first place that holds x. -/
theorem first_at (ss : List ByteArray) (x : ByteArray) (v : Nat) (h : ss.getD v ByteArray.empty = x) : ∃ k, k ≤ v ∧ ss.getD k ByteArray.empty = x ∧ ∀ j, j < k → ss.getD j ByteArray.empty ≠ x := by
    induction v using Nat.strongRecOn with
    | _ v ih =>
      by_cases hex : ∃ j, j < v ∧ ss.getD j ByteArray.empty = x
      · obtain ⟨j, hj, he⟩ := hex
        obtain ⟨k, h1, h2, h3⟩ := ih j hj he
        exact ⟨k, by omega, h2, h3⟩
      · exact ⟨v, Nat.le_refl _, h, fun j hj he => hex ⟨j, hj, he⟩⟩

set_option maxHeartbeats 1000000 in
/-- valueOf, ZZvalueOf: the first place. -/
theorem valueOf_at (b n c g c' k m : Nat) (f : Bool) (hf : (k = 0 ∧ f = false) ∨ (0 < k ∧ f = true)) (ss : List ByteArray) (x : ByteArray) (w : World) (hn : n = ss.length) (hbig : n ≤ 1048576) (hc : ∀ j, j < ss.length → w.cell? ⟨b, 0 + j, none⟩ = some (.string (ss.getD j ByteArray.empty)))
    (hg : (convert 28 9 (.slice (some ⟨g, 0, none⟩) m c')).run Try.prog w = .ok (.string x) w) (hk : k < n) (hat : ss.getD k ByteArray.empty = x) (hne : ∀ j, j < k → ss.getD j ByteArray.empty ≠ x) :
    Calls Try.prog 15 #[.slice (some ⟨b, 0, none⟩) n c, .slice (some ⟨g, 0, none⟩) m c'] w fun e w' => e = .returned (.tuple #[.int .i64 k,   .bool f]) ∧ w' = w := by
  have H0 := slices_Index_string b 0 n c ss x w (by omega) (by omega) hc
  rw [Lib.idxOfS_hit ss n k x hk (by omega) hat hne] at H0
  have H := hide H0
  clear hc hat hne H0 hn
  have HG := hide hg
  clear hg
  rcases hf with ⟨rfl, rfl⟩ | ⟨h0, rfl⟩
  all_goals
    go_enter Try.func15, Try.ntmps15
    go_wp2_with fail
    rw [unhide HG]
    go_wp2_with fail
    refine (unhide H).mono ?_
    rintro e w' ⟨rfl, rfl⟩
    go_wp2_with fail
    go_ret2
    exact ⟨rfl, rfl⟩
set_option maxHeartbeats 1000000 in
theorem zzValueOf_at (b n c g c' k m : Nat) (f : Bool) (hf : (k = 0 ∧ f = false) ∨ (0 < k ∧ f = true)) (ss : List ByteArray) (x : ByteArray) (w : World) (hn : n = ss.length) (hbig : n ≤ 1048576) (hc : ∀ j, j < ss.length → w.cell? ⟨b, 0 + j, none⟩ = some (.string (ss.getD j ByteArray.empty)))
    (hg : (convert 28 9 (.slice (some ⟨g, 0, none⟩) m c')).run Try.prog w = .ok (.string x) w) (hk : k < n) (hat : ss.getD k ByteArray.empty = x) (hne : ∀ j, j < k → ss.getD j ByteArray.empty ≠ x) :
    Calls Try.prog 9 #[.slice (some ⟨b, 0, none⟩) n c, .slice (some ⟨g, 0, none⟩) m c'] w fun e w' => e = .returned (.tuple #[.int .i64 k,   .bool f]) ∧ w' = w := by
  have H := hide (valueOf_at b n c g c' k m f hf ss x w hn hbig hc hg hk hat hne)
  clear hc hat hne hg hf hn
  go_enter Try.func9, Try.ntmps9
  go_wp2_with fail
  refine (unhide H).mono ?_
  rintro e w' ⟨rfl, rfl⟩
  go_wp2_with fail
  go_ret2
  exact ⟨rfl, rfl⟩

/-- []byte(x), and back. -/
theorem back (x : ByteArray) (w : World) : ∃ (c : Nat) (w2 : World),
    (convert 9 28 (.string x)).run Try.prog w = .ok (.slice (some ⟨w.heap.size, 0, none⟩) x.size c) w2 ∧ Below w.heap.size w w2 ∧
    (convert 28 9 (.slice (some ⟨w.heap.size, 0, none⟩) x.size c)).run Try.prog w2 = .ok (.string x) w2 := by
  refine ⟨_, _, run_bytes_of_string w 9 28 5 x Try.underlying9 Try.underlying28 Try.underlying5, ?_, ?_⟩
  · exact ((Below.refl _ w).drew).alloc (Nat.le_refl _) _
  · have h := run_convert_bytes_back (P := Try.prog) (w.drew.alloc (.cells (bytesRow x (grownCap w x.size 0 5)) 5 ((bytesRow x (grownCap w x.size 0 5)).size, (bytesRow x (grownCap w x.size 0 5)).size + 1))) 28 9 5 ⟨w.heap.size, 0, none⟩ (grownCap w x.size 0 5) x.data.toList Try.underlying28 Try.underlying5 Try.underlying9
      (fun j hj => by
        rw [add_none, Nat.zero_add]
        have := World.cell?_alloc_mark w.drew (bytesRow x (grownCap w x.size 0 5)) 5 ((bytesRow x (grownCap w x.size 0 5)).size, (bytesRow x (grownCap w x.size 0 5)).size + 1) j
        refine this.trans ?_
        rw [bytesRow_at x _ j (by simpa using hj)]
        simp)
    simpa using h
end Go.Proofs.Qxb6613096a
