/- What the rows' list gives a walk: the three variables' cells; a world for the witness; a slice of bytes that came in. No conditions beyond those written at each lemma. -/
import Derived.Test.YtkkplbfbhmlnoaaDoorCards
import Derived.Test.YtkkplbfbhmlnoaaDoorTie
import Derived.Test.YtkkplbfbhmlnoaaDoorRb
import Derived.ProofKit
import Derived.OpenShut
import Derived.Deep.DeepHandedRow
import Derived.Deep.DeepWitnessRowRef
import Derived.Stop.LaidTwo
import Derived.LaidHandle
namespace Go.Proofs.YtkkplbfbhmlnoaaDoor
open Go.ChangeShapes Go.WideShapes Go.ChangeAt Go.RowKit

theorem own : ownKnob Tryd.prog.godebug = none := by kernel_rfl
theorem laidOut : laidOutB Tryd.prog = true := by kernel_rfl
theorem gType : Tryd.prog.globalNamed "errors.errorType" = some 0 := by kernel_rfl
theorem gUeof : Tryd.prog.globalNamed "io.ErrUnexpectedEOF" = some 1 := by kernel_rfl
theorem gEof : Tryd.prog.globalNamed "io.EOF" = some 2 := by kernel_rfl
theorem tUeof : (Tryd.prog.globals[1]?).map (·.type) = some 55 := by kernel_rfl
theorem tEof : (Tryd.prog.globals[2]?).map (·.type) = some 55 := by kernel_rfl
theorem cells210 : Tryd.prog.cellsOf 210 = 1 := by kernel_rfl
theorem cells9 : Tryd.prog.cellsOf 9 = 1 := by kernel_rfl
theorem cells5 : Tryd.prog.cellsOf 5 = 1 := by kernel_rfl
theorem star : "*" ++ "errors.errorString" = "*errors.errorString" := by decide
theorem row178 (u : TypeId) (h : Tryd.prog.typeName? 3 u = some "*errors.errorString") : u = 178 :=
  typeName_ptr_named (nm := "errors.errorString") (by rw [star]; kernel_rfl) (by kernel_rfl) (by decide) u (by rw [star]; exact h)
theorem rtRow : (Tryd.prog.cutTypes.find? (·.1 == "internal/reflectlite.rtype")).map (·.2) = some 161 := by kernel_rfl
theorem oneRow : ((List.range 221).filter fun t => Tryd.prog.rowNamed t [101, 114, 114, 111, 114]) = [55] := by kernel_rfl
theorem typesSize : Tryd.prog.types.size = 221 := by kernel_rfl

set_option maxRecDepth 100000 in
/-- WHAT THE ROWs LIST GIVES. -/
theorem glob_of_laid {W : World} (h : laidMetH Tryd.prog Rows.fnQuantizationRow.laid W) : ∃ a1 a2, Glob W a1 a2 := by
  have h' : laidMet Tryd.prog [("io.EOF", Rows.laid_io_EOF), ("io.ErrUnexpectedEOF", Rows.laid_io_ErrUnexpectedEOF)] W ∧ handlesMet Tryd.prog [("errors.errorType", Rows.laid_errors_errorType)] W := h
  obtain ⟨a2, a1, s2, s1, c2, c1, t2, t1, hv2, hv1, _⟩ := laid_sentinels2 h'.1 gEof tEof gUeof tUeof Tryd.underlying55 row178 Tryd.underlying178 Tryd.underlying210 rfl rfl Tryd.underlying9 cells210 cells9
  obtain ⟨name, u, ty, e1, e2, e3, e4, e5⟩ := h'.2 _ (List.mem_singleton.2 rfl)
  have en : name = [101, 114, 114, 111, 114] := (Option.some.inj e1).symm
  subst en
  obtain rfl := Option.some.inj (rtRow.symm.trans e2)
  have hm : ty ∈ (List.range 221).filter fun t => Tryd.prog.rowNamed t [101, 114, 114, 111, 114] := List.mem_filter.2 ⟨List.mem_range.2 (by rw [← typesSize]; exact e3), e4⟩
  rw [oneRow] at hm
  obtain rfl := List.mem_singleton.1 hm
  have hh : typeHandle Tryd.prog 55 = .pointer (some ⟨4, 55, none⟩) := by kernel_rfl
  rw [hh] at e5
  exact ⟨a1, a2, by simpa using World.var?_cell gType e5 0, by simpa using World.var?_cell gUeof hv1 0, by simpa using World.var?_cell gEof hv2 0⟩

set_option maxRecDepth 100000 in
/-- A slice of bytes that came in. -/
theorem open_bytes {H : Type} {enc : TypeId × Value → H} {W : World} {base : Nat} {v : Value} {d : DataW H} {p : List MemPlace} (hv : Value.okWide Tryd.prog W .any base (22 : Nat) v) (h : DataW.Trod enc Tryd.prog W 0 (fun _ => true) true (22 : Nat) v d p)
    (hs : ∀ elems spare, d = .slice elems spare → elems.length + spare.length ≤ reachBytes) :
    ∃ (b : Option Addr) (cap : Nat) (l : List UInt8), v = .slice b l.length cap ∧ l.length ≤ cap ∧ cap ≤ 9223372036854775807 ∧ Bytes W (fun k => k < W.heap.size) b l := by
  obtain ⟨a0, len, cap, rfl⟩ := okWide_slice Tryd.underlying22 (by assumption)
  obtain ⟨fuel, hf⟩ := h
  rcases open_ints Tryd.underlying22 Tryd.underlying5 cells5 hf with ⟨hcs, _⟩ | ⟨a, len', cap', zs, hcs, _, hl, _, hz, hx, hcell, hwz⟩
  · cases hcs
    exact ⟨none, 0, [], rfl, Nat.le_refl _, by decide, .inl rfl⟩
  · cases hcs
    rw [if_pos rfl] at hz
    have hd : d = .slice (lits .u8 (zs.take len)) (lits .u8 (zs.drop len)) := congrArg Prod.fst hx
    have hm := hs _ _ hd
    have hr := reachBytes_lt
    simp [lits] at hm
    have hll : ((zs.take len).map fun z => UInt8.ofNat z.toNat).length = len := by simp; omega
    refine ⟨some a, cap, (zs.take len).map fun z => UInt8.ofNat z.toNat, by rw [hll], by rw [hll]; exact hl, by omega, ?_⟩
    by_cases h0 : len = 0
    · exact .inl (List.eq_nil_of_length_eq_zero (by rw [hll]; exact h0))
    have key : ∀ k, k < len → ∃ n : Nat, zs.getD k 0 = (n : Int) ∧ n < 256 := fun k hk => by
      have hkz : k < zs.length := by omega
      have hw := hwz (zs.getD k 0) (by rw [List.getD_eq_getElem?_getD, List.getElem?_eq_getElem hkz]; exact List.getElem_mem hkz)
      have hw' : 0 ≤ zs.getD k 0 ∧ zs.getD k 0 < 256 := by
        have m0 : IntKind.u8.min = 0 := by decide
        have m1 : IntKind.u8.max = 255 := by decide
        have e0 : zs.getD k 0 = zs[k]?.getD 0 := List.getD_eq_getElem?_getD
        simp [Lit.wf] at hw
        omega
      exact ⟨(zs.getD k 0).toNat, by omega, by omega⟩
    have c0 := hcell 0 (by omega)
    obtain ⟨g, o, sp⟩ := a
    have hsp : sp = none := by
      cases sp with
      | none => rfl
      | some s =>
        unfold World.cell? at c0
        simp [Addr.add] at c0
        split at c0 <;> simp at c0
    subst hsp
    refine .inr ⟨g, o, rfl, World.block_lt_of_cell? _ _ (by simpa [addr_add] using c0), World.block_lt_of_cell? _ _ (by simpa [addr_add] using c0), fun k hk => ?_⟩
    rw [hll] at hk
    obtain ⟨n, hn, hn2⟩ := key k hk
    have ck := hcell k (by omega)
    rw [addr_add, hn] at ck
    rw [ck]
    have hkz : k < zs.length := by omega
    have e : zs[k] = (n : Int) := by rw [← hn, List.getD_eq_getElem?_getD, List.getElem?_eq_getElem hkz]; rfl
    simp only [List.getElem_map, List.getElem_take, e, Int.toNat_natCast, UInt8.toNat_ofNat']
    rw [Nat.mod_eq_of_lt (by omega)]

/-! ### A world for the witness -/
abbrev eofS : ByteArray := { data := #[69, 79, 70] }
abbrev ueofS : ByteArray := { data := #[117, 110, 101, 120, 112, 101, 99, 116, 101, 100, 32, 69, 79, 70] }
noncomputable def low : Nat := (World.holding Tryd.prog default ⟨#[], #[], []⟩).heap.size
noncomputable def laidWorld (os : Os) : World :=
  let w0 := World.holding Tryd.prog os ⟨#[.cells #[.string eofS] 210, .cells #[.string ueofS] 210], #[], []⟩
  { w0 with heap := ((w0.heap.modify 0 fun
      | .cells _ t frozen => .cells #[.iface 161 (.agg #[.pointer (some ⟨4, 55, none⟩)])] t frozen
      | o => o).modify 1 fun
      | .cells _ t frozen => .cells #[.iface 178 (.pointer (some ⟨low + 1, 0, none⟩))] t frozen
      | o => o).modify 2 fun
      | .cells _ t frozen => .cells #[.iface 178 (.pointer (some ⟨low, 0, none⟩))] t frozen
      | o => o }
theorem laidWorld_met (os : Os) (args : Array Value) : laidMetH Tryd.prog Rows.fnQuantizationRow.laid ((laidWorld os).forCall (fun _ _ => 0) ⟨#[], args, []⟩).memory :=
  laidMetH_of_parts (laidMet_of_run (ps := [.cell 2 0, .cell low 0, .cell 1 0, .cell (low + 1) 0]) 8 (by kernel_rfl) (by kernel_rfl) (by kernel_rfl)) (by kernel_rfl)
end Go.Proofs.YtkkplbfbhmlnoaaDoor
