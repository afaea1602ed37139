/- The decoder as its zero value lays it, with a reader. No conditions. -/
import Derived.Test.YtkkplbfbhmlnoaaDoorRa
import Derived.Test.YtkkplbfbhmlnoaaDoorLa
namespace Go.Proofs.YtkkplbfbhmlnoaaDoor
open Go.RowKit

def zMid : List Value :=
  [.int .i64 0, .int .i64 0, .pointer none, .pointer none, .slice none 0 0, .int .i64 0, .bool false, .int .i64 0, .int .i64 0, .int .i64 0, .int .i64 0, .bool false, .bool false, .bool false, .bool false, .int .u8 0, .int .u16 0,
   .int .i64 0, .int .i64 0, .int .u8 0, .int .u8 0, .int .i64 0, .int .i64 0, .int .i64 0, .int .i64 0, .int .u8 0, .int .u8 0, .int .i64 0, .int .i64 0, .int .i64 0, .int .i64 0, .int .u8 0, .int .u8 0,
   .int .i64 0, .int .i64 0, .int .i64 0, .int .i64 0, .int .u8 0, .int .u8 0, .int .i64 0, .int .i64 0, .slice none 0 0, .slice none 0 0, .slice none 0 0, .slice none 0 0]
def zHuff (q : Nat) : Value := if q < 1 then .int .i32 0 else if q < 257 then .int .u16 0 else if q < 513 then .int .u8 0 else .int .i32 0
def f0 (r : Nat) (k : Nat) : Value :=
  if k < 1 then .iface 74 (.pointer (some ⟨r, 0, none⟩)) else if k < 3 then .int .u32 0 else if k < 4 then .int .i32 0 else if k < 4100 then .int .u8 0 else if k < 4103 then .int .i64 0
  else if k < 4148 then zMid.getD (k - 4103) undef else if k < 8636 then zHuff ((k - 4148) % 561) else if k < 8892 then .int .i32 0 else .int .u8 0

set_option maxRecDepth 1000000 in
theorem build_decoder (r : Nat) (w : World) : (Instr.build 101 #[(0, .iface 74 (.pointer (some ⟨r, 0, none⟩)))]).run Tryd.prog w = .ok (.agg (arr 9020 (f0 r))) w := by kernel_rfl
theorem box_decoder (f : Nat → Value) (w : World) : (Instr.box 101 (.agg (arr 9020 f))).run Tryd.prog w = .ok (.pointer (some ⟨w.heap.size, 0, none⟩)) (w.alloc (.cells (arr 9020 f) 101)) := by kernel_rfl

section
variable {w : World} {ops : Array Oper} {rest : List Oper} {o : Oper} {a : Act} {Q : Exit → Act → World → Prop}
theorem wpList_build (hgd : o.guard = none) (x : Operand) (ho : o.op = .build 101 #[(0, x)]) (r : Nat) (hx : a.eval x = .iface 74 (.pointer (some ⟨r, 0, none⟩)))
    (h : wpList Tryd.prog ops Q rest (a.put o.dst (.agg (arr 9020 (f0 r)))) w) : wpList Tryd.prog ops Q (o :: rest) a w := by
  refine wpList_value hgd (v := .agg (arr 9020 (f0 r))) (w' := w) ?_ h
  unfold execOp
  simp only [ho]
  have := build_decoder r w
  rw [← hx] at this
  simp [Sem.run_bind, this]
theorem wpList_box (hgd : o.guard = none) (x : Operand) (ho : o.op = .box 101 x) (f : Nat → Value) (hx : a.eval x = .agg (arr 9020 f))
    (h : wpList Tryd.prog ops Q rest (a.put o.dst (.pointer (some ⟨w.heap.size, 0, none⟩))) (w.alloc (.cells (arr 9020 f) 101))) : wpList Tryd.prog ops Q (o :: rest) a w := by
  refine wpList_value hgd (v := .pointer (some ⟨w.heap.size, 0, none⟩)) (w' := w.alloc (.cells (arr 9020 f) 101)) ?_ h
  unfold execOp
  simp only [ho, hx]
  simp [Sem.run_bind, box_decoder f w]
end
end Go.Proofs.YtkkplbfbhmlnoaaDoor
