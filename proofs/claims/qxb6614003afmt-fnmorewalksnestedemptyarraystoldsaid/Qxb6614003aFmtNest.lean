/-
  THE PLAIN MATHEMATICS OF NESTED EMPTY ARRAYS: a text read as a chain of neighbours. No Go in sight.
-/
import Derived.Test.Qxb6614003aFmtPlain
namespace Go.Proofs.Qxb6614003aFmt.Pl

/-- What may stand behind what. -/
def fits (prev c : Int) : Bool := if prev = 91 then c == 91 || c == 93 else if prev = 93 then c == 44 || c == 93 else c == 91

/-- From place p on, dep deep, behind prev: where the value ends. -/
def go (zs : List Int) : Nat → Nat → Nat → Int → Option Nat
  | 0, _, _, _ => none
  | f + 1, p, dep, prev =>
    if nns zs p < zs.length then
      if fits prev (zs.getD (nns zs p) 0) then
        if zs.getD (nns zs p) 0 = 91 then go zs f (nns zs p + 1) (dep + 1) 91
        else if zs.getD (nns zs p) 0 = 93 then (if dep = 1 then some (nns zs p + 1) else go zs f (nns zs p + 1) (dep - 1) 93)
        else go zs f (nns zs p + 1) dep 44
      else none
    else none

theorem go_fuel (zs : List Int) : ∀ (f f' p dep : Nat) (prev : Int), zs.length - p < f → zs.length - p < f' → go zs f p dep prev = go zs f' p dep prev
  | 0, _, _, _, _, h, _ => by omega
  | _, 0, _, _, _, _, h => by omega
  | f + 1, f' + 1, p, dep, prev, h, h' => by
    have hge := nns_ge zs p
    unfold go
    by_cases hlt : nns zs p < zs.length
    · have e := fun dep prev => go_fuel zs f f' (nns zs p + 1) dep prev (by omega) (by omega)
      simp only [e]
    · rw [if_neg hlt, if_neg hlt]

def G (zs : List Int) (p dep : Nat) (prev : Int) : Option Nat := go zs (zs.length + 1) p dep prev

section
variable {zs : List Int} {p dep i : Nat} {prev c : Int}
theorem G_end (hi : nns zs p = zs.length) : G zs p dep prev = none := by
  unfold G go
  rw [if_neg (by omega)]
theorem G_unfit (hi : nns zs p = i) (hlt : i < zs.length) (hc : zs.getD i 0 = c) (hf : fits prev c = false) : G zs p dep prev = none := by
  unfold G go
  rw [hi, if_pos hlt, hc, hf]
  rfl
theorem G_open (hi : nns zs p = i) (hlt : i < zs.length) (hc : zs.getD i 0 = 91) (hf : fits prev 91 = true) : G zs p dep prev = G zs (i + 1) (dep + 1) 91 := by
  unfold G
  rw [go_fuel zs (zs.length + 1) zs.length (i + 1) (dep + 1) 91 (by omega) (by omega)]
  conv => lhs; unfold go
  rw [hi, if_pos hlt, hc, hf, if_pos rfl, if_pos rfl]
theorem G_close1 (hi : nns zs p = i) (hlt : i < zs.length) (hc : zs.getD i 0 = 93) (hf : fits prev 93 = true) : G zs p 1 prev = some (i + 1) := by
  unfold G go
  rw [hi, if_pos hlt, hc, hf, if_pos rfl, if_neg (by decide), if_pos rfl, if_pos rfl]
theorem G_close (hi : nns zs p = i) (hlt : i < zs.length) (hc : zs.getD i 0 = 93) (hf : fits prev 93 = true) (hd : dep ≠ 1) : G zs p dep prev = G zs (i + 1) (dep - 1) 93 := by
  unfold G
  rw [go_fuel zs (zs.length + 1) zs.length (i + 1) (dep - 1) 93 (by omega) (by omega)]
  conv => lhs; unfold go
  rw [hi, if_pos hlt, hc, hf, if_pos rfl, if_neg (by decide), if_pos rfl, if_neg hd]
theorem G_comma (hi : nns zs p = i) (hlt : i < zs.length) (hc : zs.getD i 0 = 44) (hf : fits prev 44 = true) : G zs p dep prev = G zs (i + 1) dep 44 := by
  unfold G
  rw [go_fuel zs (zs.length + 1) zs.length (i + 1) dep 44 (by omega) (by omega)]
  conv => lhs; unfold go
  rw [hi, if_pos hlt, hc, hf, if_pos rfl, if_neg (by decide), if_neg (by decide)]
end

/-- Where the value of nested empty arrays ends that the text opens with, if it opens with one. -/
def E (zs : List Int) : Option Nat := if nns zs 0 < zs.length ∧ zs.getD (nns zs 0) 0 = 91 then G zs (nns zs 0 + 1) 1 91 else none
theorem E_none (zs : List Int) (h : nns zs 0 = zs.length) : E zs = none := by
  unfold E; rw [if_neg (by omega)]
theorem E_other (zs : List Int) (h : zs.getD (nns zs 0) 0 ≠ 91) : E zs = none := by
  unfold E; rw [if_neg (fun h' => h h'.2)]
theorem E_open (zs : List Int) (h : nns zs 0 < zs.length) (h' : zs.getD (nns zs 0) 0 = 91) : E zs = G zs (nns zs 0 + 1) 1 91 := by
  unfold E; rw [if_pos ⟨h, h'⟩]

theorem fits_91_91 : fits 91 91 = true := by decide
theorem fits_91_93 : fits 91 93 = true := by decide
theorem fits_93_93 : fits 93 93 = true := by decide
theorem fits_93_44 : fits 93 44 = true := by decide
theorem fits_44_91 : fits 44 91 = true := by decide
theorem fits_91 {c : Int} (h1 : c ≠ 91) (h2 : c ≠ 93) : fits 91 c = false := by
  unfold fits; rw [if_pos rfl, beq_eq_false_iff_ne.2 h1, beq_eq_false_iff_ne.2 h2]; rfl
theorem fits_93 {c : Int} (h1 : c ≠ 44) (h2 : c ≠ 93) : fits 93 c = false := by
  unfold fits; rw [if_neg (by decide), if_pos rfl, beq_eq_false_iff_ne.2 h1, beq_eq_false_iff_ne.2 h2]; rfl
theorem fits_44 {c : Int} (h1 : c ≠ 91) : fits 44 c = false := by
  unfold fits; rw [if_neg (by decide), if_neg (by decide), beq_eq_false_iff_ne.2 h1]
end Go.Proofs.Qxb6614003aFmt.Pl
