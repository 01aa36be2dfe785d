/-
  errors.As AT A *SyntaxError, ITS TARGET A **SyntaxError: Go's own text of errors.As and errors.as is walked. After the guide's worked example (ToyasAs), its numbers turned to this program's.
-/
import Derived.Test.Qxb6614003aFmtBase
import Derived.LaidEql
import Derived.Stop.Asserts
import Derived.RowKitTokens
namespace Go.Proofs.Qxb6614003aFmt
open Go.RowKit Go.Extern.Stop Go.Stop Go.Extern
set_option linter.unusedVariables false

/-! ### CLOSED FACTS ON THE MODEL's ENTRIES FOR internal/reflectlite, at this program's types: 52: *jsonpick.SyntaxError · 63: **jsonpick.SyntaxError · 29: error · 85: reflectlite's rtype · 4: how many package-level variables the dump has -/
theorem Tryf.valueOf63 (t : Addr) (w : World) : (ReflectliteValue.unpack (.iface 63 (.pointer (some t)))).run Tryf.prog w
    = .ok (.agg #[.pointer (some ⟨4, 63, none⟩), .pointer (some ⟨w.heap.size, 0, none⟩), .int .u64 150]) (w.alloc (.cells #[.pointer (some t)] 63)) := by kernel_rfl
theorem Tryf.type63 (a : Addr) (w : World) : (ReflectliteValue.methodAny (ReflectliteValue.valueError "reflectlite.Value.Type" 0) (fun t _ _ _ => ReflectliteType.toType t) #[.agg #[.pointer (some ⟨4, 63, none⟩), .pointer (some a), .int .u64 150]]).run Tryf.prog w
    = .ok (.iface 85 (.agg #[.pointer (some ⟨4, 63, none⟩)])) w := by kernel_rfl
theorem Tryf.methodKind (h : Value) (w : World) : (Go.method 233 85 (.agg #[h]) "Kind").run Tryf.prog w = .ok (61, h) w := by kernel_rfl
theorem Tryf.kind63 (w : World) : ((ReflectliteType.abiMethod fun t => (fun a : Nat => Value.int IntKind.u8 (a : Int)) <$> Rtype.kind t) #[.pointer (some ⟨4, 63, none⟩)]).run Tryf.prog w = .ok (.int .u8 22) w := by kernel_rfl
theorem Tryf.kind52 (w : World) : ((ReflectliteType.abiMethod fun t => (fun a : Nat => Value.int IntKind.u8 (a : Int)) <$> Rtype.kind t) #[.pointer (some ⟨4, 52, none⟩)]).run Tryf.prog w = .ok (.int .u8 22) w := by kernel_rfl

/-! ### THE ENTRIES THAT READ OR WRITE MEMORY: laws with a premise on the cell (after Derived/Lib/ReflectliteSlice.lean's manner: each unfolding a lemma of its own, by rfl) -/
theorem match_set {motive : Array Value → Type} (v x : Value) (h1 : (v x : Value) → motive #[v, x]) (h2 : (a : Array Value) → motive a) : ReflectliteValue.set.match_3 motive #[v, x] h1 h2 = h1 v x := rfl
theorem match_method {motive : Array Value → Type} (v : Value) (h1 : (v : Value) → motive #[v]) (h2 : (a : Array Value) → motive a) : ReflectliteValue.method.match_2 motive #[v] h1 h2 = h1 v := rfl
theorem Tryf.parts63 (a : Addr) (w : World) : (ReflectliteValue.parts (.agg #[.pointer (some ⟨4, 63, none⟩), .pointer (some a), .int .u64 150])).run Tryf.prog w = .ok (some (63, a, 150)) w := by kernel_rfl
/-- (Value).IsNil at the Value of a **SyntaxError that is not nil. -/
theorem Tryf.isNil63 (a p : Addr) (W : World) (ha : W.cell? a = some (.pointer (some p))) :
    (ReflectliteValue.method (ReflectliteValue.valueError "reflectlite.Value.IsNil" 0) ReflectliteValue.isNil #[.agg #[.pointer (some ⟨4, 63, none⟩), .pointer (some a), .int .u64 150]]).run Tryf.prog W = .ok (.bool false) W := by
  delta ReflectliteValue.method
  rw [match_method]
  simp only [Sem.run_bind, Tryf.parts63, Result.andThen]
  simp [ReflectliteValue.isNil, loadVar, isAgg, underlying, Tryf.underlying63, ha, Result.andThen]

theorem Tryf.methodElem (h : Value) (w : World) : (Go.method 233 85 (.agg #[h]) "Elem").run Tryf.prog w = .ok (77, .agg #[h]) w := by kernel_rfl
theorem Tryf.methodImplements (h : Value) (w : World) : (Go.method 233 85 (.agg #[h]) "Implements").run Tryf.prog w = .ok (78, .agg #[h]) w := by kernel_rfl
theorem Tryf.methodAssignableTo (h : Value) (w : World) : (Go.method 233 85 (.agg #[h]) "AssignableTo").run Tryf.prog w = .ok (75, .agg #[h]) w := by kernel_rfl
theorem Tryf.elem63 (w : World) : (ReflectliteType.method ReflectliteType.elem #[.agg #[.pointer (some ⟨4, 63, none⟩)]]).run Tryf.prog w = .ok (.iface 85 (.agg #[.pointer (some ⟨4, 52, none⟩)])) w := by kernel_rfl
theorem Tryf.implements52 (w : World) : (ReflectliteType.relation "Implements" ReflectliteType.implements_ #[.agg #[.pointer (some ⟨4, 52, none⟩)], .iface 85 (.agg #[.pointer (some ⟨4, 29, none⟩)])]).run Tryf.prog w = .ok (.bool true) w := by kernel_rfl
theorem Tryf.typeOf52 (v : Value) (w : World) : (ReflectliteType.typeOf #[.iface 52 v]).run Tryf.prog w = .ok (.iface 85 (.agg #[.pointer (some ⟨4, 52, none⟩)])) w := by kernel_rfl
theorem Tryf.assignable52 (w : World) : (ReflectliteType.relation "AssignableTo" ReflectliteType.assignableTo #[.agg #[.pointer (some ⟨4, 52, none⟩)], .iface 85 (.agg #[.pointer (some ⟨4, 52, none⟩)])]).run Tryf.prog w = .ok (.bool true) w := by kernel_rfl
theorem Tryf.valueOf52 (e : Addr) (w : World) : (ReflectliteValue.unpack (.iface 52 (.pointer (some e)))).run Tryf.prog w
    = .ok (.agg #[.pointer (some ⟨4, 52, none⟩), .pointer (some ⟨w.heap.size, 0, none⟩), .int .u64 150]) (w.alloc (.cells #[.pointer (some e)] 52)) := by kernel_rfl

theorem Tryf.elemOf63 (w : World) : (Rtype.elem? 63).run Tryf.prog w = .ok (some 52) w := by kernel_rfl
theorem Tryf.mk52 (p : Addr) (w : World) : (ReflectliteValue.mk 52 p ReflectliteValue.flagAddr).run Tryf.prog w = .ok (.agg #[.pointer (some ⟨4, 52, none⟩), .pointer (some p), .int .u64 406]) w := by kernel_rfl
/-- (Value).Elem at the Value of a **SyntaxError that is not nil: the Value of the *SyntaxError variable that it points to, addressable. -/
theorem Tryf.elemV63 (a p : Addr) (W : World) (ha : W.cell? a = some (.pointer (some p))) :
    (ReflectliteValue.method (ReflectliteValue.valueError "reflectlite.Value.Elem" 0) ReflectliteValue.elem #[.agg #[.pointer (some ⟨4, 63, none⟩), .pointer (some a), .int .u64 150]]).run Tryf.prog W
      = .ok (.agg #[.pointer (some ⟨4, 52, none⟩), .pointer (some p), .int .u64 406]) W := by
  delta ReflectliteValue.method
  rw [match_method]
  simp only [Sem.run_bind, Tryf.parts63, Result.andThen]
  simp [ReflectliteValue.elem, loadVar, isAgg, underlying, Tryf.underlying63, ha, Result.andThen, Tryf.elemOf63, Tryf.mk52]
theorem Tryf.parts52a (a : Addr) (w : World) : (ReflectliteValue.parts (.agg #[.pointer (some ⟨4, 52, none⟩), .pointer (some a), .int .u64 406])).run Tryf.prog w = .ok (some (52, a, 406)) w := by kernel_rfl
theorem Tryf.parts52 (a : Addr) (w : World) : (ReflectliteValue.parts (.agg #[.pointer (some ⟨4, 52, none⟩), .pointer (some a), .int .u64 150])).run Tryf.prog w = .ok (some (52, a, 150)) w := by kernel_rfl
theorem Tryf.direct52 (w : World) : (Rtype.directlyAssignable 52 52).run Tryf.prog w = .ok true w := by kernel_rfl
theorem Tryf.size52 (w : World) : (sizeOf 52).run Tryf.prog w = .ok 1 w := by kernel_rfl
/-- (Value).Set: the *SyntaxError variable at 'ta' gets what the Value's own variable 'b' holds. -/
theorem Tryf.set52 (ta b e : Addr) (old : Value) (W : World) (hb : W.cell? b = some (.pointer (some e))) (ht : W.cell? ta = some old) (hf : W.frozen? ta = false) :
    (ReflectliteValue.set #[.agg #[.pointer (some ⟨4, 52, none⟩), .pointer (some ta), .int .u64 406], .agg #[.pointer (some ⟨4, 52, none⟩), .pointer (some b), .int .u64 150]]).run Tryf.prog W
      = .ok (.tuple #[]) (W.setCell ta (.pointer (some e))) := by
  delta ReflectliteValue.set
  rw [match_set]
  simp only [Sem.run_bind, Tryf.parts52a, Tryf.parts52, Result.andThen]
  simp [ReflectliteValue.flagAddr, loadVar, isAgg, underlying, Tryf.underlying52, hb, Result.andThen, Tryf.direct52, storeVar, Value.cells, storeCells, Addr.add]
  rw [run_store Tryf.prog W ta _ _ (by rfl)]
  simp [ht, hf]

set_option maxHeartbeats 4000000 in
theorem as_hit (e t : Addr) (old : Value) (w : World) (hg : w.cell? ⟨3, 0, none⟩ = some (.iface 85 (.agg #[.pointer (some ⟨4, 29, none⟩)]))) (ht0 : w.cell? t = some old) (hf0 : w.frozen? t = false) :
    Calls Tryf.prog 37 #[.iface 52 (.pointer (some e)), .iface 63 (.pointer (some t))] w fun ev w' => ev = .returned (.bool true) ∧ w' = ((((w.alloc (.cells #[.pointer (some t)] 63)).alloc (.cells #[.pointer (some ⟨4, 63, none⟩), .pointer (some ⟨w.heap.size, 0, none⟩), .int .u64 150] 71)).alloc (.cells #[.pointer (some ⟨4, 63, none⟩), .pointer (some ⟨w.heap.size, 0, none⟩), .int .u64 150] 71)).alloc (.cells #[.pointer (some e)] 52)).setCell t (.pointer (some e)) := by
  have h6 := @run_callFunc_extern Tryf.prog 40 _ (fun args => ReflectliteValue.unpack (args.getD 0 (.tuple #[]))) Tryf.func40 (by kernel_rfl) (by kernel_rfl) (by kernel_rfl) (by kernel_rfl)
  have h7 := @run_callFunc_extern Tryf.prog 41 _ (ReflectliteValue.methodAny (ReflectliteValue.valueError "reflectlite.Value.Type" 0) (fun t _ _ _ => ReflectliteType.toType t)) Tryf.func41 (by kernel_rfl) (by kernel_rfl) (by kernel_rfl) (by kernel_rfl)
  have h8 := @run_callFunc_extern Tryf.prog 42 _ (ReflectliteValue.method (ReflectliteValue.valueError "reflectlite.Value.IsNil" 0) ReflectliteValue.isNil) Tryf.func42 (by kernel_rfl) (by kernel_rfl) (by kernel_rfl) (by kernel_rfl)
  have h27 := @run_callFunc_extern Tryf.prog 61 _ (ReflectliteType.abiMethod fun t => do pure (.int .u8 (← Rtype.kind t))) Tryf.func61 (by kernel_rfl) (by kernel_rfl) (by kernel_rfl) (by kernel_rfl)
  have h37 := @run_callFunc_extern Tryf.prog 77 _ (ReflectliteType.method ReflectliteType.elem) Tryf.func77 (by kernel_rfl) (by kernel_rfl) (by kernel_rfl) (by kernel_rfl)
  have h38 := @run_callFunc_extern Tryf.prog 78 _ (ReflectliteType.relation "Implements" ReflectliteType.implements_) Tryf.func78 (by kernel_rfl) (by kernel_rfl) (by kernel_rfl) (by kernel_rfl)
  have h10 := @run_callFunc_extern Tryf.prog 44 _ ReflectliteType.typeOf Tryf.func44 (by kernel_rfl) (by kernel_rfl) (by kernel_rfl) (by kernel_rfl)
  have h35 := @run_callFunc_extern Tryf.prog 75 _ (ReflectliteType.relation "AssignableTo" ReflectliteType.assignableTo) Tryf.func75 (by kernel_rfl) (by kernel_rfl) (by kernel_rfl) (by kernel_rfl)
  have h11 := @run_callFunc_extern Tryf.prog 45 _ (ReflectliteValue.method (ReflectliteValue.valueError "reflectlite.Value.Elem" 0) ReflectliteValue.elem) Tryf.func45 (by kernel_rfl) (by kernel_rfl) (by kernel_rfl) (by kernel_rfl)
  have h12 := @run_callFunc_extern Tryf.prog 46 _ ReflectliteValue.set Tryf.func46 (by kernel_rfl) (by kernel_rfl) (by kernel_rfl) (by kernel_rfl)
  have tO := Tryf.typeOf52
  have mA := Tryf.methodAssignableTo
  have a25 := Tryf.assignable52
  have v25 := Tryf.valueOf52
  have f6 := Tryf.valueOf63
  have f7 := Tryf.type63
  have mK := Tryf.methodKind
  have mE := Tryf.methodElem
  have mI := Tryf.methodImplements
  have k27 := Tryf.kind63
  have k25 := Tryf.kind52
  have e27 := Tryf.elem63
  have i25 := Tryf.implements52
  have n8 := Tryf.isNil63 ⟨w.heap.size, 0, none⟩ t ((w.alloc (.cells #[.pointer (some t)] 63)).alloc (.cells #[.pointer (some ⟨4, 63, none⟩), .pointer (some ⟨w.heap.size, 0, none⟩), .int .u64 150] 71)) (by simp)
  have hlt : 3 < w.heap.size := by
    rcases Nat.lt_or_ge 3 w.heap.size with h | h
    · exact h
    · simp [World.cell?, Array.getElem?_eq_none h] at hg
  have hg2 : ((w.alloc (.cells #[.pointer (some t)] 63)).alloc (.cells #[.pointer (some ⟨4, 63, none⟩), .pointer (some ⟨w.heap.size, 0, none⟩), .int .u64 150] 71)).cell? ⟨3, 0, none⟩ = some (.iface 85 (.agg #[.pointer (some ⟨4, 29, none⟩)])) := by
    rw [World.cell?_alloc_lt _ _ ⟨3, 0, none⟩ (by simp; omega), World.cell?_alloc_lt _ _ ⟨3, 0, none⟩ hlt]; exact hg
  have htl : t.block < w.heap.size := by
    rcases Nat.lt_or_ge t.block w.heap.size with h | h
    · exact h
    · simp [World.cell?, Array.getElem?_eq_none h] at ht0
  have el := Tryf.elemV63 ⟨w.heap.size, 0, none⟩ t (((w.alloc (.cells #[.pointer (some t)] 63)).alloc (.cells #[.pointer (some ⟨4, 63, none⟩), .pointer (some ⟨w.heap.size, 0, none⟩), .int .u64 150] 71)).alloc (.cells #[.pointer (some ⟨4, 63, none⟩), .pointer (some ⟨w.heap.size, 0, none⟩), .int .u64 150] 71)) (by rw [World.cell?_alloc_lt _ _ ⟨w.heap.size, 0, none⟩ (by simp; omega)]; simp)
  have st := Tryf.set52 t ⟨w.heap.size + 1 + 1 + 1, 0, none⟩ e old ((((w.alloc (.cells #[.pointer (some t)] 63)).alloc (.cells #[.pointer (some ⟨4, 63, none⟩), .pointer (some ⟨w.heap.size, 0, none⟩), .int .u64 150] 71)).alloc (.cells #[.pointer (some ⟨4, 63, none⟩), .pointer (some ⟨w.heap.size, 0, none⟩), .int .u64 150] 71)).alloc (.cells #[.pointer (some e)] 52))
    (by rw [World.cell?_alloc_at _ _ _ _ (by simp)]; rfl)
    (by rw [World.cell?_alloc_lt _ _ t (by simp; omega), World.cell?_alloc_lt _ _ t (by simp; omega), World.cell?_alloc_lt _ _ t (by simp; omega), World.cell?_alloc_lt _ _ t htl]; exact ht0)
    (by rw [World.frozen?_alloc_old _ _ t (by simp; omega), World.frozen?_alloc_old _ _ t (by simp; omega), World.frozen?_alloc_old _ _ t (by simp; omega), World.frozen?_alloc_old _ _ t (Nat.ne_of_lt htl)]; exact hf0)
  go_enter Tryf.func37, Tryf.ntmps37
  go_wp2
  refine wp_loop_rounds 1 ?_
  rw [rounds_succ]
  go_wp2
  go_ret
  exact ⟨rfl, rfl⟩
end Go.Proofs.Qxb6614003aFmt
