/-
  slices.Index at []string: the shelf's contract, laid for this program by the shelf's own tool (its first theorem).
-/
import Derived.Test.Qxb6613096aChecked
import Derived.Lib.Strings
import Derived.Lib.Slices
import Derived.Lib.SlicesS
import Derived.Lib.Walk
namespace Go.Proofs.Qxb6613096a

set_option maxHeartbeats 1000000 in
/-- slices.Index at []string: "Index returns the index of the first occurrence of v in s, or -1 if not present.": IT RETURNS 'Lib.idxOfS (the elements) v'; the world is as it was. 'zs': what the cells behind the slice's address hold (its spare capacity too, if you have it); 'zs.take n': its elements. -/
theorem slices_Index_string (b off n c : Nat) (zs : List ByteArray) (x : ByteArray) (w : World) (hz : n ≤ zs.length) (hbig : n ≤ 9223372036854775807) (hc : ∀ j, j < zs.length → w.cell? ⟨b, off + j, none⟩ = some (.string (zs.getD j ByteArray.empty))) :
    Calls Try.prog 18 #[.slice (some ⟨b, off, none⟩) n c, .string x] w fun e w' => e = .returned (.int .i64 (Lib.idxOfS (zs.take n) x)) ∧ w' = w := by
  go_enter Try.func18, Try.ntmps18
  go_wp2
  go_loop [5, 8] (fun _ i => ∃ k : Nat, k ≤ n ∧ i = .int .i64 k ∧ ∀ j, j < k → zs.getD j ByteArray.empty ≠ x) (fun _ i => match i with | .int _ m => n - m.toNat | _ => 0)
  case atStart => exact ⟨0, Nat.zero_le _, rfl, fun j hj => absurd hj (Nat.not_lt_zero _)⟩
  case round =>
    obtain ⟨k, hk, rfl, hne⟩ := hrel
    have hcell : k < n → w.cell? ⟨b, off + k, none⟩ = some (.string (zs.getD k ByteArray.empty)) := fun _ => hc k (by omega)
    go_wp2
    · have hlt : k < n := by assumption
      have heq : (x.toList == (zs[k]?.getD ByteArray.empty).toList) = true := by assumption
      go_ret
      refine ⟨?_, rfl⟩
      rw [Lib.idxOfS_hit zs n k x hlt hz (by simp only [List.getD]; exact ((Lib.bytes_beq_iff _ _).1 heq).symm) hne]
      rfl
    · have hlt : k < n := by assumption
      have hneq : (x.toList == (zs[k]?.getD ByteArray.empty).toList) = false := by assumption
      refine ⟨⟨_, _, _, ⟨k + 1, by omega, rfl, fun j hj => ?_⟩, rfl, rfl, ?_⟩, by omega⟩
      · by_cases e : j = k
        · subst e
          intro he
          exact (Lib.bytes_beq_false_iff _ _).1 hneq (by simpa [List.getD] using he.symm)
        · have := hne j (by omega)
          simpa [List.getD] using this
      · have e1 : ((k : Int) + 1 + 9223372036854775808) % 18446744073709551616 - 9223372036854775808 = ((k + 1 : Nat) : Int) := by omega
        rw [e1]
    · have hge : ¬ k < n := by assumption
      have : k = n := by omega
      subst this
      go_ret
      refine ⟨?_, rfl⟩
      rw [Lib.idxOfS_miss zs k x hne]
      rfl

end Go.Proofs.Qxb6613096a
