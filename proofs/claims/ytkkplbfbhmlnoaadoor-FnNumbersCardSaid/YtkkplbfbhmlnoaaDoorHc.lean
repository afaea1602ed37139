/- The builtin clear on a slice of uint16. Conditions: its cells are there and may be written. -/
import Derived.Test.YtkkplbfbhmlnoaaDoorQb
import Derived.OwnWalk
namespace Go.Proofs.YtkkplbfbhmlnoaaDoor
open Go.RowKit
theorem und158 : Tryd.prog.underlying 158 = some (.slice 84) := by kernel_rfl
theorem info84 : (Tryd.prog.info? 84).map (fun i => (i.zero, i.size, i.bytes)) = some (some (.int .u16 0), 1, 2) := by kernel_rfl
theorem zeros256 : (Builtin.zeroCells (Value.int .u16 0).cells 256).toList = List.replicate 256 (.int .u16 0) := by kernel_rfl
set_option maxRecDepth 100000 in
theorem run_clear (w : World) (g o : Nat) (hc : ∀ k, k < 256 → (w.cell? ⟨g, o + k, none⟩).isSome = true) (hf : ∀ k, k < 256 → w.frozen? ⟨g, o + k, none⟩ = false) :
    (Builtin.clear_ #[158] 0 #[.slice (some ⟨g, o, none⟩) 256 256]).run Tryd.prog w = .ok (.tuple #[]) (w.setCells g o (List.replicate 256 (.int .u16 0))) := by
  obtain ⟨i0, hi0, hz0, hz1, hz2⟩ := info_parts info84
  have hst := run_storeCells_cells (P := Tryd.prog) g o (List.replicate 256 (.int .u16 0)) 0 w (fun k hk => by rw [Nat.add_zero]; exact hc k (by rw [List.length_replicate] at hk; exact hk)) (fun k hk => by rw [Nat.add_zero]; exact hf k (by rw [List.length_replicate] at hk; exact hk)) (by
    intro v hv
    rw [List.eq_of_mem_replicate hv]
    rfl)
  rw [Nat.add_zero] at hst
  have hzs := zeros256
  generalize List.replicate 256 (Value.int .u16 0) = vs at hzs hst ⊢
  simp [Builtin.clear_, run_underlying und158, zeroValue, typeInfo, hi0, hz0, hzs, Sem.run_bind, hst]
theorem wpList_clear {w : World} {ops : Array Oper} {rest : List Oper} {o : Oper} {a : Act} {Q : Exit → Act → World → Prop} (hgd : o.guard = none) (x : Operand) (ho : o.op = .call { callee := .builtin .clear, args := #[x], argTypes := #[158] })
    (g off : Nat) (hx : a.eval x = .slice (some ⟨g, off, none⟩) 256 256) (hc : ∀ k, k < 256 → (w.cell? ⟨g, off + k, none⟩).isSome = true) (hf : ∀ k, k < 256 → w.frozen? ⟨g, off + k, none⟩ = false)
    (h : wpList Tryd.prog ops Q rest (a.put o.dst (.tuple #[])) (w.setCells g off (List.replicate 256 (.int .u16 0)))) : wpList Tryd.prog ops Q (o :: rest) a w := by
  have hr := run_clear w g off hc hf
  have hr2 : (Builtin.clear_ #[158] o.type #[.slice (some ⟨g, off, none⟩) 256 256]).run Tryd.prog w = .ok (.tuple #[]) (w.setCells g off (List.replicate 256 (.int .u16 0))) := hr
  refine wpList_value hgd (v := .tuple #[]) (w' := w.setCells g off (List.replicate 256 (.int .u16 0))) ?_ h
  generalize w.setCells g off (List.replicate 256 (.int .u16 0)) = W at *
  unfold execOp
  simp only [ho, resolve, invoke, builtin, Sem.run_bind, Sem.run_pure, Result.andThen_ok, List.map_toArray, List.map_cons, List.map_nil, hx, hr2]
end Go.Proofs.YtkkplbfbhmlnoaaDoor
