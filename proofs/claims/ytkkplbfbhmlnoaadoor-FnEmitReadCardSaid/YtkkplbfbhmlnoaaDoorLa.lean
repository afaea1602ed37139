/- Laws for operations on whole arrays, by the cells that they read or write. Conditions: those of each law. -/
import Derived.Test.YtkkplbfbhmlnoaaDoorBa
import Derived.Deep.Quiet
import Derived.Orders
import Derived.Laws.Cells
namespace Go.Proofs.YtkkplbfbhmlnoaaDoor
open Go.RowKit

/-- n cells. -/
def arr (n : Nat) (f : Nat → Value) : Array Value := ((List.range n).map f).toArray
theorem arr_size (n : Nat) (f : Nat → Value) : (arr n f).size = n := by simp [arr]
theorem arr_get (n : Nat) (f : Nat → Value) (k : Nat) (h : k < n) : (arr n f)[k]? = some (f k) := by simp [arr, h]
theorem arr_toList (n : Nat) (f : Nat → Value) : (arr n f).toList = (List.range n).map f := by simp [arr]

section
variable {P : Program} {w : World} {ops : Array Oper} {rest : List Oper} {o : Oper} {a : Act} {Q : Exit → Act → World → Prop}

theorem oper_value {K : Act → World → Prop} {v : Value} {w' : World} (hrun : (execOp a.eval o).run P w = .ok (.value v) w') (h : K (a.put o.dst v) w') : o.wp P a w K Q := by
  unfold Oper.wp
  rw [hrun]
  exact h
theorem oper_skip {K : Act → World → Prop} {w' : World} (hrun : (execOp a.eval o).run P w = .ok .skip w') (h : K (a.put o.dst undef) w') : o.wp P a w K Q := by
  unfold Oper.wp
  rw [hrun]
  exact h
theorem wpList_value (hgd : o.guard = none) {v : Value} {w' : World} (hrun : (execOp a.eval o).run P w = .ok (.value v) w') (h : wpList P ops Q rest (a.put o.dst v) w') : wpList P ops Q (o :: rest) a w :=
  wpList_plain hgd fun _ hK => oper_value hrun (hK _ _ h)
theorem wpList_skip' (hgd : o.guard = none) {w' : World} (hrun : (execOp a.eval o).run P w = .ok .skip w') (h : wpList P ops Q rest (a.put o.dst undef) w') : wpList P ops Q (o :: rest) a w :=
  wpList_plain hgd fun _ hK => oper_skip hrun (hK _ _ h)

theorem wpList_at (v : Value) (w' : World) (hgd : o.guard = none) (hrun : (execOp a.eval o).run P w = .ok (.value v) w') (h : wpList P ops Q rest (a.put o.dst v) w') : wpList P ops Q (o :: rest) a w :=
  wpList_value hgd hrun h

theorem addr_add' (g o j : Nat) : (⟨g, o, none⟩ : Addr).add j = ⟨g, o + j, none⟩ := by
  unfold Addr.add
  split <;> simp_all

/-- The facts on an array's type that its load and its store want. -/
structure ArrT (P : Program) (T n : Nat) : Prop where
  agg : ∀ w, (isAgg T).run P w = .ok true w
  size : ∀ w, (sizeOf T).run P w = .ok n w

theorem run_loadArr {T n g o' : Nat} (hT : ArrT P T n) (f : Nat → Value) (hc : ∀ k, k < n → w.cell? ⟨g, o' + k, none⟩ = some (f k)) : (loadVar T ⟨g, o', none⟩).run P w = .ok (.agg (arr n f)) w := by
  have hl := run_loadCells (P := P) w ⟨g, o', none⟩ n f (fun j hj => by rw [addr_add']; exact hc j hj)
  simp [loadVar, Sem.run_bind, hT.agg w, hT.size w, hl, arr]

theorem run_loadArrOp {T n g o' : Nat} (hT : ArrT P T n) (x : Operand) (ho : o.op = .load T x) (hx : a.eval x = .pointer (some ⟨g, o', none⟩)) (f : Nat → Value) (hc : ∀ k, k < n → w.cell? ⟨g, o' + k, none⟩ = some (f k)) :
    (execOp a.eval o).run P w = .ok (.value (.agg (arr n f))) w := by
  unfold execOp
  simp only [ho, hx, Instr.loadAt, Instr.sureAddr, Sem.run_bind, Sem.run_pure, Result.andThen_ok, run_loadArr hT f hc]

theorem run_storeArrOp {T n g o' : Nat} (hT : ArrT P T n) (x y : Operand) (ho : o.op = .store T x y) (hx : a.eval x = .pointer (some ⟨g, o', none⟩)) (f : Nat → Value) (hy : a.eval y = .agg (arr n f))
    (hc : ∀ k, k < n → (w.cell? ⟨g, o' + k, none⟩).isSome = true) (hf : ∀ k, k < n → w.frozen? ⟨g, o' + k, none⟩ = false) (h1 : ∀ k, k < n → (f k).oneCell' = true) :
    (execOp a.eval o).run P w = .ok .skip (w.setCells g o' ((List.range n).map f)) := by
  have hst := run_storeCells_cells (P := P) g o' ((List.range n).map f) 0 w (by simpa using hc) (by simpa using hf) (by
    intro v hv
    obtain ⟨k, hk, rfl⟩ := List.mem_map.1 hv
    exact h1 k (by simpa using hk))
  unfold execOp
  simp only [ho, hx, hy, Instr.storeAt, Instr.sureAddr, Sem.run_bind, Sem.run_pure, Result.andThen_ok, storeVar, Value.cells, hT.size w, arr_size]
  simp [arr_toList, hst]

theorem wpList_loadArr (hgd : o.guard = none) {T n g o' : Nat} (hT : ArrT P T n) (x : Operand) (ho : o.op = .load T x) (hx : a.eval x = .pointer (some ⟨g, o', none⟩)) (f : Nat → Value) (hc : ∀ k, k < n → w.cell? ⟨g, o' + k, none⟩ = some (f k))
    (h : wpList P ops Q rest (a.put o.dst (.agg (arr n f))) w) : wpList P ops Q (o :: rest) a w :=
  wpList_value hgd (run_loadArrOp hT x ho hx f hc) h

theorem wpList_storeArr (hgd : o.guard = none) {T n g o' : Nat} (hT : ArrT P T n) (x y : Operand) (ho : o.op = .store T x y) (hx : a.eval x = .pointer (some ⟨g, o', none⟩)) (f : Nat → Value) (hy : a.eval y = .agg (arr n f))
    (hc : ∀ k, k < n → (w.cell? ⟨g, o' + k, none⟩).isSome = true) (hf : ∀ k, k < n → w.frozen? ⟨g, o' + k, none⟩ = false) (h1 : ∀ k, k < n → (f k).oneCell' = true)
    (h : wpList P ops Q rest (a.put o.dst undef) (w.setCells g o' ((List.range n).map f))) : wpList P ops Q (o :: rest) a w :=
  wpList_skip' hgd (run_storeArrOp hT x y ho hx f hy hc hf h1) h

/-- A store of what is there already leaves the world. -/
theorem setCell_self (w : World) (x : Addr) (v : Value) (h : w.cell? x = some v) : w.setCell x v = w := by
  unfold World.cell? at h
  split at h
  · rename_i c e fr hb
    have hs : x.spot.isSome = false := by
      cases hs : x.spot.isSome with
      | false => rfl
      | true => simp [hs] at h
    simp only [hs, Bool.false_eq_true, if_false] at h
    have hw : (w.setCell x v).heap = w.heap := by
      apply Array.ext_getElem?
      intro i
      simp only [World.setCell, Array.getElem?_modify]
      split
      · rename_i hi
        subst hi
        rw [hb]
        simp only [Option.map_some, hs, Bool.false_eq_true, if_false]
        have : c.setIfInBounds x.off v = c := by
          apply Array.ext_getElem?
          intro k
          rw [Array.getElem?_setIfInBounds]
          split
          · rename_i hk
            subst hk
            split
            · exact h.symm
            · rename_i hlt
              rw [Array.getElem?_eq_none (by omega)] at h
              cases h
          · rfl
        rw [this]
      · rfl
    have e2 : w.setCell x v = { w with heap := (w.setCell x v).heap } := rfl
    rw [e2, hw]
  · cases h
theorem setCells_self (g : Nat) : ∀ (vs : List Value) (o : Nat) (w : World), (∀ k v, vs[k]? = some v → w.cell? ⟨g, o + k, none⟩ = some v) → w.setCells g o vs = w
  | [], _, _, _ => rfl
  | v :: r, o, w, h => by
    have h0 := h 0 v rfl
    rw [World.setCells, setCell_self w _ v (by simpa using h0)]
    exact setCells_self g r (o + 1) w (fun k u hk => by
      have := h (k + 1) u (by simpa using hk)
      rwa [show o + (k + 1) = o + 1 + k by omega] at this)
end

/-- An array stored back where it lies. -/
theorem run_storeBack {P : Program} {w : World} {o : Oper} {a : Act} {T n g : Nat} (hT : ArrT P T n) (x y : Operand) (ho : o.op = .store T x y) (hx : a.eval x = .pointer (some ⟨g, 0, none⟩)) {f : Nat → Value} (hy : a.eval y = .agg (arr n f)) (hB : Blk w g n f) (h1 : ∀ k, k < n → (f k).oneCell' = true) :
    (execOp a.eval o).run P w = .ok .skip w := by
  refine (run_storeArrOp hT x y ho hx f hy ?_ ?_ h1).trans ?_
  · intro k hk
    rw [Nat.zero_add, hB.cell k hk]
    rfl
  · intro k _
    exact hB.free _
  · rw [setCells_self _ _ _ _ (fun k v hk => ?_)]
    have hk2 : k < n := by have := (List.getElem?_eq_some_iff.1 hk).1; simpa using this
    rw [List.getElem?_map, List.getElem?_range hk2] at hk
    rw [Nat.zero_add, hB.cell k hk2]
    exact hk

theorem wpList_storeBack {P : Program} {w : World} {ops : Array Oper} {rest : List Oper} {o : Oper} {a : Act} {Q : Exit → Act → World → Prop} (hgd : o.guard = none) {T n g : Nat} (hT : ArrT P T n) (x y : Operand) (ho : o.op = .store T x y) (hx : a.eval x = .pointer (some ⟨g, 0, none⟩)) {f : Nat → Value} (hy : a.eval y = .agg (arr n f)) (hB : Blk w g n f) (h1 : ∀ k, k < n → (f k).oneCell' = true)
    (h : wpList P ops Q rest (a.put o.dst undef) w) : wpList P ops Q (o :: rest) a w :=
  wpList_skip' hgd (run_storeBack hT x y ho hx hy hB h1) h
theorem wpList_loadBlk {P : Program} {w : World} {ops : Array Oper} {rest : List Oper} {o : Oper} {a : Act} {Q : Exit → Act → World → Prop} (hgd : o.guard = none) {T n g : Nat} (hT : ArrT P T n) (x : Operand) (ho : o.op = .load T x) (hx : a.eval x = .pointer (some ⟨g, 0, none⟩)) {f : Nat → Value} (hB : Blk w g n f)
    (h : wpList P ops Q rest (a.put o.dst (.agg (arr n f))) w) : wpList P ops Q (o :: rest) a w :=
  wpList_loadArr hgd hT x ho hx f (fun k hk => by rw [Nat.zero_add]; exact hB.cell k hk) h

/-! ### The same in a region that draws its order -/
section
variable {P : Program} {w : World} {ops : Array Oper} {rest : List Oper} {o : Oper} {a : Act} {Q : Act → Prop}
theorem quiet_value (hgd : o.guard = none) {v : Value} (hrun : (execOp a.eval o).run P w = .ok (.value v) w) (h : wpQuiet P ops (fun w' => w' = w) Q rest (a.put o.dst v)) : wpQuiet P ops (fun w' => w' = w) Q (o :: rest) a := by
  refine wpQuiet_step fun K hK => ?_
  rw [if_pos (by simp [Region.wanted, hgd])]
  refine ⟨v, ?_, hK _ h⟩
  rintro w' rfl
  unfold Oper.quietAt
  rw [hrun]
  exact ⟨rfl, rfl⟩
theorem quiet_skip (hgd : o.guard = none) (hrun : (execOp a.eval o).run P w = .ok .skip w) (h : wpQuiet P ops (fun w' => w' = w) Q rest (a.put o.dst undef)) : wpQuiet P ops (fun w' => w' = w) Q (o :: rest) a := by
  refine wpQuiet_step fun K hK => ?_
  rw [if_pos (by simp [Region.wanted, hgd])]
  refine ⟨undef, ?_, hK _ h⟩
  rintro w' rfl
  unfold Oper.quietAt
  rw [hrun]
  exact ⟨rfl, rfl⟩
end

/-! ### Results that lie in a variable -/
section
variable {P : Program} {fn : Func} {p u v : Tmp} {T n g : Nat} {tmps : Array Value} {w : World}
theorem results_arr2 (h : fn.results = #[.cell p T, .tmp u]) (hT : ArrT P T n) (hp : tmps.getD p undef = .pointer (some ⟨g, 0, none⟩)) (f : Nat → Value) (hc : ∀ k, k < n → w.cell? ⟨g, k, none⟩ = some (f k)) :
    (results fn tmps).run P w = .ok (.tuple #[.agg (arr n f), tmps.getD u undef]) w := by
  have hl := run_loadArr (w := w) (g := g) (o' := 0) hT f (by simpa using hc)
  have hp' : tmps[p]?.getD undef = .pointer (some ⟨g, 0, none⟩) := by simpa using hp
  simp [results, h, hp', asAddr, hl]
theorem results_arr3 (h : fn.results = #[.cell p T, .tmp u, .tmp v]) (hT : ArrT P T n) (hp : tmps.getD p undef = .pointer (some ⟨g, 0, none⟩)) (f : Nat → Value) (hc : ∀ k, k < n → w.cell? ⟨g, k, none⟩ = some (f k)) :
    (results fn tmps).run P w = .ok (.tuple #[.agg (arr n f), tmps.getD u undef, tmps.getD v undef]) w := by
  have hl := run_loadArr (w := w) (g := g) (o' := 0) hT f (by simpa using hc)
  have hp' : tmps[p]?.getD undef = .pointer (some ⟨g, 0, none⟩) := by simpa using hp
  simp [results, h, hp', asAddr, hl]
end
end Go.Proofs.YtkkplbfbhmlnoaaDoor
