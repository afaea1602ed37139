/- The number that impl.code gives an error: 0 for none, 1 for a FormatError. Conditions: the variable errors.errorType holds what its initialiser lays. -/
import Derived.Test.YtkkplbfbhmlnoaaDoorProg
import Derived.Test.YtkkplbfbhmlnoaaDoorBa
import Derived.LaidEql
import Derived.Stop.Asserts
import Derived.RowKitTokens
import Derived.WalkLawsBesides
import Derived.WalkSpells
namespace Go.Proofs.YtkkplbfbhmlnoaaDoor
open Go.RowKit Go.Extern.Stop Go.Stop Go.Extern

/-! ### Closed facts: what the model's entries for internal/reflectlite give here -/
theorem ec_typeOf107 (v : Value) (w : World) : (callFunc 42 #[.iface 107 v]).run Tryd.prog w = .ok (.value (.iface 161 (.agg #[.pointer (some ⟨4, 107, none⟩)]))) w := by kernel_rfl
theorem ec_comp107 (w : World) : (callFunc 96 #[.agg #[.pointer (some ⟨4, 107, none⟩)]]).run Tryd.prog w = .ok (.value (.bool true)) w := by kernel_rfl
theorem ec_mComparable (v : Value) (w : World) : (Go.method 321 161 v "Comparable").run Tryd.prog w = .ok (96, v) w := by kernel_rfl
theorem ec_noIs (v : Value) (xT : TypeId) (w : World) : (Instr.typeAssert (.iface 103 v) xT 163 true).run Tryd.prog w = .ok (.tuple #[.nilIface, .bool false]) w := run_typeAssert_lacksB Tryd.underlying163 (by kernel_rfl) (by kernel_rfl) v xT w
theorem ec_noUnwrap (v : Value) (xT : TypeId) (w : World) : (Instr.typeAssert (.iface 103 v) xT 166 true).run Tryd.prog w = .ok (.tuple #[.nilIface, .bool false]) w := run_typeAssert_lacksB Tryd.underlying166 (by kernel_rfl) (by kernel_rfl) v xT w
theorem ec_noUnwraps (v : Value) (xT : TypeId) (w : World) : (Instr.typeAssert (.iface 103 v) xT 167 true).run Tryd.prog w = .ok (.tuple #[.nilIface, .bool false]) w := run_typeAssert_lacksB Tryd.underlying167 (by kernel_rfl) (by kernel_rfl) v xT w

theorem is_loop (s : ByteArray) (w : World) :
    Calls Tryd.prog 43 #[.iface 103 (.string s), .iface 107 (.agg #[]), .bool true] w fun e w' => e = .returned (.bool false) ∧ w = w' := by
  have nE := ec_noIs
  have uE := ec_noUnwrap
  have vE := ec_noUnwraps
  have heq := run_eql_iface_types (P := Tryd.prog) 103 107 (.string s) (.agg #[]) Tryd.underlying55 (by decide) w
  go_enter Tryd.func43, Tryd.ntmps43
  go_wp2
  refine wp_loop_rounds 1 ?_
  rw [rounds_succ]
  go_wp2
  go_ret
  exact ⟨rfl, rfl⟩

set_option maxRecDepth 100000 in
/-- errors.Is(a FormatError, own{}): false. -/
theorem is_format (s : ByteArray) (w : World) :
    Calls Tryd.prog 31 #[.iface 103 (.string s), .iface 107 (.agg #[])] w fun e w' => e = .returned (.bool false) ∧ w = w' := by
  have tT := ec_typeOf107
  have cT := ec_comp107
  have mC := ec_mComparable
  go_enter Tryd.func31, Tryd.ntmps31
  go_wp2_with fail
  refine (is_loop s w).mono ?_
  rintro e w' ⟨rfl, rfl⟩
  go_wp2_with fail
  go_ret
  exact ⟨rfl, rfl⟩

/-! ### errors.As at a FormatError and a *FormatError -/
theorem ec_valueOf109 (t : Addr) (w : World) : (callFunc 44 #[.iface 109 (.pointer (some t))]).run Tryd.prog w
    = .ok (.value (.agg #[.pointer (some ⟨4, 109, none⟩), .pointer (some ⟨w.heap.size, 0, none⟩), .int .u64 150])) (w.alloc (.cells #[.pointer (some t)] 109)) := by kernel_rfl
theorem ec_type109 (a : Addr) (w : World) : (callFunc 45 #[.agg #[.pointer (some ⟨4, 109, none⟩), .pointer (some a), .int .u64 150]]).run Tryd.prog w
    = .ok (.value (.iface 161 (.agg #[.pointer (some ⟨4, 109, none⟩)]))) w := by kernel_rfl
theorem ec_mKind (h : Value) (w : World) : (Go.method 321 161 (.agg #[h]) "Kind").run Tryd.prog w = .ok (69, h) w := by kernel_rfl
theorem ec_mElem (h : Value) (w : World) : (Go.method 321 161 (.agg #[h]) "Elem").run Tryd.prog w = .ok (97, .agg #[h]) w := by kernel_rfl
theorem ec_mImplements (h : Value) (w : World) : (Go.method 321 161 (.agg #[h]) "Implements").run Tryd.prog w = .ok (98, .agg #[h]) w := by kernel_rfl
theorem ec_mAssignable (h : Value) (w : World) : (Go.method 321 161 (.agg #[h]) "AssignableTo").run Tryd.prog w = .ok (95, .agg #[h]) w := by kernel_rfl
theorem ec_kind109 (w : World) : (callFunc 69 #[.pointer (some ⟨4, 109, none⟩)]).run Tryd.prog w = .ok (.value (.int .u8 22)) w := by kernel_rfl
theorem ec_kind103 (w : World) : (callFunc 69 #[.pointer (some ⟨4, 103, none⟩)]).run Tryd.prog w = .ok (.value (.int .u8 24)) w := by kernel_rfl
theorem ec_elem109 (w : World) : (callFunc 97 #[.agg #[.pointer (some ⟨4, 109, none⟩)]]).run Tryd.prog w = .ok (.value (.iface 161 (.agg #[.pointer (some ⟨4, 103, none⟩)]))) w := by kernel_rfl
theorem ec_implements103 (w : World) : (callFunc 98 #[.agg #[.pointer (some ⟨4, 103, none⟩)], .iface 161 (.agg #[.pointer (some ⟨4, 55, none⟩)])]).run Tryd.prog w = .ok (.value (.bool true)) w := by kernel_rfl
theorem ec_typeOf103 (v : Value) (w : World) : (callFunc 42 #[.iface 103 v]).run Tryd.prog w = .ok (.value (.iface 161 (.agg #[.pointer (some ⟨4, 103, none⟩)]))) w := by kernel_rfl
theorem ec_assignable103 (w : World) : (callFunc 95 #[.agg #[.pointer (some ⟨4, 103, none⟩)], .iface 161 (.agg #[.pointer (some ⟨4, 103, none⟩)])]).run Tryd.prog w = .ok (.value (.bool true)) w := by kernel_rfl
theorem ec_valueOf103 (s : ByteArray) (w : World) : (callFunc 44 #[.iface 103 (.string s)]).run Tryd.prog w
    = .ok (.value (.agg #[.pointer (some ⟨4, 103, none⟩), .pointer (some ⟨w.heap.size, 0, none⟩), .int .u64 152])) (w.alloc (.cells #[.string s] 103)) := by kernel_rfl

/-- What begins with p. -/
theorem run_first {P : Program} {α : Type} {m : Sem Value} {p : Sem α} {k : α → Sem Value} {r : α} {W : World} {R : Result Value} (hm : m = p >>= k) (hp : p.run P W = .ok r W) (hk : (k r).run P W = R) : m.run P W = R := by
  rw [hm, Sem.run_bind, hp]
  exact hk
theorem ec_parts109 (a : Addr) (w : World) : (ReflectliteValue.parts (.agg #[.pointer (some ⟨4, 109, none⟩), .pointer (some a), .int .u64 150])).run Tryd.prog w = .ok (some (109, a, 150)) w := by kernel_rfl
theorem ec_isNil109 (a p : Addr) (W : World) (ha : W.cell? a = some (.pointer (some p))) :
    (callFunc 46 #[.agg #[.pointer (some ⟨4, 109, none⟩), .pointer (some a), .int .u64 150]]).run Tryd.prog W = .ok (.value (.bool false)) W := by
  rw [@run_callFunc_extern Tryd.prog 46 _ (ReflectliteValue.method (ReflectliteValue.valueError "reflectlite.Value.IsNil" 0) ReflectliteValue.isNil) Tryd.func46 (by kernel_rfl) (by kernel_rfl) (by kernel_rfl) (by kernel_rfl)]
  have key : (ReflectliteValue.method (ReflectliteValue.valueError "reflectlite.Value.IsNil" 0) ReflectliteValue.isNil #[.agg #[.pointer (some ⟨4, 109, none⟩), .pointer (some a), .int .u64 150]]).run Tryd.prog W = .ok (.bool false) W := by
    refine run_first (p := ReflectliteValue.parts (.agg #[.pointer (some ⟨4, 109, none⟩), .pointer (some a), .int .u64 150])) rfl (ec_parts109 a W) ?_
    simp [ReflectliteValue.isNil, loadVar, isAgg, underlying, Tryd.underlying109, ha, Result.andThen]
  rw [key]
  rfl
theorem ec_elemOf109 (w : World) : (Rtype.elem? 109).run Tryd.prog w = .ok (some 103) w := by kernel_rfl
theorem ec_mk103 (p : Addr) (w : World) : (ReflectliteValue.mk 103 p ReflectliteValue.flagAddr).run Tryd.prog w = .ok (.agg #[.pointer (some ⟨4, 103, none⟩), .pointer (some p), .int .u64 408]) w := by kernel_rfl
theorem ec_elemV109 (a p : Addr) (W : World) (ha : W.cell? a = some (.pointer (some p))) :
    (callFunc 52 #[.agg #[.pointer (some ⟨4, 109, none⟩), .pointer (some a), .int .u64 150]]).run Tryd.prog W
      = .ok (.value (.agg #[.pointer (some ⟨4, 103, none⟩), .pointer (some p), .int .u64 408])) W := by
  rw [@run_callFunc_extern Tryd.prog 52 _ (ReflectliteValue.method (ReflectliteValue.valueError "reflectlite.Value.Elem" 0) ReflectliteValue.elem) Tryd.func52 (by kernel_rfl) (by kernel_rfl) (by kernel_rfl) (by kernel_rfl)]
  have key : (ReflectliteValue.method (ReflectliteValue.valueError "reflectlite.Value.Elem" 0) ReflectliteValue.elem #[.agg #[.pointer (some ⟨4, 109, none⟩), .pointer (some a), .int .u64 150]]).run Tryd.prog W = .ok (.agg #[.pointer (some ⟨4, 103, none⟩), .pointer (some p), .int .u64 408]) W := by
    refine run_first (p := ReflectliteValue.parts (.agg #[.pointer (some ⟨4, 109, none⟩), .pointer (some a), .int .u64 150])) rfl (ec_parts109 a W) ?_
    simp [ReflectliteValue.elem, loadVar, isAgg, underlying, Tryd.underlying109, ha, Result.andThen, ec_elemOf109, ec_mk103]
  rw [key]
  rfl
theorem ec_parts103a (a : Addr) (w : World) : (ReflectliteValue.parts (.agg #[.pointer (some ⟨4, 103, none⟩), .pointer (some a), .int .u64 408])).run Tryd.prog w = .ok (some (103, a, 408)) w := by kernel_rfl
theorem ec_parts103 (a : Addr) (w : World) : (ReflectliteValue.parts (.agg #[.pointer (some ⟨4, 103, none⟩), .pointer (some a), .int .u64 152])).run Tryd.prog w = .ok (some (103, a, 152)) w := by kernel_rfl
theorem ec_direct103 (w : World) : (Rtype.directlyAssignable 103 103).run Tryd.prog w = .ok true w := by kernel_rfl
theorem ec_set103 (ta b : Addr) (s : ByteArray) (old : Value) (W : World) (hb : W.cell? b = some (.string s)) (ht : W.cell? ta = some old) (hf : W.frozen? ta = false) :
    (callFunc 53 #[.agg #[.pointer (some ⟨4, 103, none⟩), .pointer (some ta), .int .u64 408], .agg #[.pointer (some ⟨4, 103, none⟩), .pointer (some b), .int .u64 152]]).run Tryd.prog W
      = .ok (.value (.tuple #[])) (W.setCell ta (.string s)) := by
  rw [@run_callFunc_extern Tryd.prog 53 _ ReflectliteValue.set Tryd.func53 (by kernel_rfl) (by kernel_rfl) (by kernel_rfl) (by kernel_rfl)]
  have key : (ReflectliteValue.set #[.agg #[.pointer (some ⟨4, 103, none⟩), .pointer (some ta), .int .u64 408], .agg #[.pointer (some ⟨4, 103, none⟩), .pointer (some b), .int .u64 152]]).run Tryd.prog W = .ok (.tuple #[]) (W.setCell ta (.string s)) := by
    refine run_first (p := ReflectliteValue.parts (.agg #[.pointer (some ⟨4, 103, none⟩), .pointer (some ta), .int .u64 408])) rfl (ec_parts103a ta W) ?_
    refine run_first (p := ReflectliteValue.parts (.agg #[.pointer (some ⟨4, 103, none⟩), .pointer (some b), .int .u64 152])) rfl (ec_parts103 b W) ?_
    simp [ReflectliteValue.flagAddr, loadVar, isAgg, underlying, Tryd.underlying103, hb, Result.andThen, ec_direct103, storeVar, Value.cells, storeCells, Addr.add]
    rw [run_store Tryd.prog W ta _ _ (by rfl)]
    simp [ht, hf]
  rw [key]
  rfl
end Go.Proofs.YtkkplbfbhmlnoaaDoor
