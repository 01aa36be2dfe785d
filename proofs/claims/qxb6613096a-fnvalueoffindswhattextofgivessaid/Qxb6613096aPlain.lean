/-
  THE PLAIN MATHEMATICS OF THIS SEAT: white space as JSON has it, and the least place from i on that is none. No Go in sight.
-/
namespace Go.Proofs.Qxb6613096a.Pl

/-- White space as JSON has it. -/
def isSp (z : Int) : Bool := z == 32 || z == 9 || z == 10 || z == 13

/-- How many white bytes a text opens with. -/
def lead : List Int → Nat
  | [] => 0
  | z :: r => if isSp z then lead r + 1 else 0

/-- The least place from i on that is no white space, or the end. -/
def nns (zs : List Int) (i : Nat) : Nat := i + lead (zs.drop i)

theorem lead_le : ∀ l : List Int, lead l ≤ l.length
  | [] => Nat.le_refl _
  | z :: r => by
    have := lead_le r
    simp only [lead, List.length_cons]
    split <;> omega

theorem nns_ge (zs : List Int) (i : Nat) : i ≤ nns zs i := by unfold nns; omega

theorem nns_le (zs : List Int) (i : Nat) (h : i ≤ zs.length) : nns zs i ≤ zs.length := by
  unfold nns
  have := lead_le (zs.drop i)
  rw [List.length_drop] at this
  omega

theorem nns_end (zs : List Int) (i : Nat) (h : zs.length ≤ i) : nns zs i = i := by
  unfold nns
  rw [List.drop_eq_nil_of_le h]
  rfl

theorem drop_at (zs : List Int) (i : Nat) (h : i < zs.length) : zs.drop i = zs.getD i 0 :: zs.drop (i + 1) := by
  rw [List.drop_eq_getElem_cons h]
  simp [List.getD, h]

theorem nns_skip (zs : List Int) (i : Nat) (h : i < zs.length) (hs : isSp (zs.getD i 0) = true) : nns zs i = nns zs (i + 1) := by
  unfold nns
  rw [drop_at zs i h]
  simp only [lead, hs, if_true]
  omega

theorem nns_stop (zs : List Int) (i : Nat) (h : i < zs.length) (hs : isSp (zs.getD i 0) = false) : nns zs i = i := by
  unfold nns
  rw [drop_at zs i h]
  simp only [lead, hs]
  rfl

/-- Whatever stands before the place found is white. -/
theorem nns_white (zs : List Int) : ∀ (d i k : Nat), zs.length - i ≤ d → i ≤ k → k < nns zs i → isSp (zs.getD k 0) = true
  | 0, i, k, hd, hik, hk => by rw [nns_end zs i (by omega)] at hk; omega
  | d + 1, i, k, hd, hik, hk => by
    by_cases h : i < zs.length
    · cases hs : isSp (zs.getD i 0) with
      | false => rw [nns_stop zs i h hs] at hk; omega
      | true =>
        rw [nns_skip zs i h hs] at hk
        by_cases e : i = k
        · subst e; exact hs
        · exact nns_white zs d (i + 1) k (by omega) (by omega) hk
    · rw [nns_end zs i (by omega)] at hk; omega

/-- What stands at the place found is not white. -/
theorem nns_black (zs : List Int) : ∀ (d i : Nat), zs.length - i ≤ d → nns zs i < zs.length → isSp (zs.getD (nns zs i) 0) = false
  | 0, i, hd, hk => by rw [nns_end zs i (by omega)] at hk; omega
  | d + 1, i, hd, hk => by
    by_cases h : i < zs.length
    · cases hs : isSp (zs.getD i 0) with
      | false => rw [nns_stop zs i h hs]; exact hs
      | true =>
        rw [nns_skip zs i h hs] at hk ⊢
        exact nns_black zs d (i + 1) (by omega) hk
    · rw [nns_end zs i (by omega)] at hk; omega

theorem white (zs : List Int) (i k : Nat) (hik : i ≤ k) (hk : k < nns zs i) : isSp (zs.getD k 0) = true := nns_white zs _ i k (Nat.le_refl _) hik hk
theorem black (zs : List Int) (i : Nat) (hk : nns zs i < zs.length) : isSp (zs.getD (nns zs i) 0) = false := nns_black zs _ i (Nat.le_refl _) hk

/-- From a place between i and the place found, the same place is found. -/
theorem nns_mid (zs : List Int) : ∀ (d i k : Nat), k - i ≤ d → i ≤ k → k ≤ nns zs i → nns zs k = nns zs i
  | 0, i, k, hd, hik, hk => by rw [show k = i by omega]
  | d + 1, i, k, hd, hik, hk => by
    by_cases e : i = k
    · subst e; rfl
    · by_cases h : i < zs.length
      · have hs : isSp (zs.getD i 0) = true := white zs i i (Nat.le_refl _) (by omega)
        rw [nns_skip zs i h hs] at hk ⊢
        exact nns_mid zs d (i + 1) k (by omega) (by omega) hk
      · rw [nns_end zs i (by omega)] at hk; omega

theorem nns_between (zs : List Int) (i k : Nat) (hik : i ≤ k) (hk : k ≤ nns zs i) : nns zs k = nns zs i := nns_mid zs _ i k (Nat.le_refl _) hik hk

theorem nns_idem (zs : List Int) (i : Nat) : nns zs (nns zs i) = nns zs i := nns_between zs i _ (nns_ge zs i) (Nat.le_refl _)

end Go.Proofs.Qxb6613096a.Pl
