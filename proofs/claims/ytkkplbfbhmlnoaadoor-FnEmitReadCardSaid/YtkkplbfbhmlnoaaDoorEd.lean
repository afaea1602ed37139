/- errors.As at a FormatError; impl.code. Conditions: the variable errors.errorType holds what its initialiser lays. -/
import Derived.Test.YtkkplbfbhmlnoaaDoorEc
namespace Go.Proofs.YtkkplbfbhmlnoaaDoor
open Go.RowKit Go.Extern.Stop Go.Stop Go.Extern

set_option maxRecDepth 100000 in
set_option maxHeartbeats 4000000 in
theorem as_format (s : ByteArray) (t : Addr) (old : Value) (w : World) (hg : w.cell? ⟨0, 0, none⟩ = some (.iface 161 (.agg #[.pointer (some ⟨4, 55, none⟩)]))) (ht0 : w.cell? t = some old) (hf0 : w.frozen? t = false) :
    Calls Tryd.prog 32 #[.iface 103 (.string s), .iface 109 (.pointer (some t))] w fun ev w' => ev = .returned (.bool true) ∧ w' = ((((w.alloc (.cells #[.pointer (some t)] 109)).alloc (.cells #[.pointer (some ⟨4, 109, none⟩), .pointer (some ⟨w.heap.size, 0, none⟩), .int .u64 150] 148)).alloc (.cells #[.pointer (some ⟨4, 109, none⟩), .pointer (some ⟨w.heap.size, 0, none⟩), .int .u64 150] 148)).alloc (.cells #[.string s] 103)).setCell t (.string s) := by
  have v109 := ec_valueOf109
  have t109 := ec_type109
  have mK := ec_mKind
  have mE := ec_mElem
  have mI := ec_mImplements
  have mA := ec_mAssignable
  have k109 := ec_kind109
  have k103 := ec_kind103
  have e109 := ec_elem109
  have i103 := ec_implements103
  have tO := ec_typeOf103
  have a103 := ec_assignable103
  have v103 := ec_valueOf103
  have n8 := ec_isNil109 ⟨w.heap.size, 0, none⟩ t ((w.alloc (.cells #[.pointer (some t)] 109)).alloc (.cells #[.pointer (some ⟨4, 109, none⟩), .pointer (some ⟨w.heap.size, 0, none⟩), .int .u64 150] 148)) (by simp)
  have hlt : 0 < w.heap.size := by
    rcases Nat.eq_zero_or_pos w.heap.size with h0 | h
    · simp [World.cell?, h0] at hg
    · exact h
  have hg2 : ((w.alloc (.cells #[.pointer (some t)] 109)).alloc (.cells #[.pointer (some ⟨4, 109, none⟩), .pointer (some ⟨w.heap.size, 0, none⟩), .int .u64 150] 148)).cell? ⟨0, 0, none⟩ = some (.iface 161 (.agg #[.pointer (some ⟨4, 55, none⟩)])) := by
    rw [World.cell?_alloc_lt _ _ ⟨0, 0, none⟩ (by simp), World.cell?_alloc_lt _ _ ⟨0, 0, none⟩ hlt]; exact hg
  have htl : t.block < w.heap.size := by
    rcases Nat.lt_or_ge t.block w.heap.size with h | h
    · exact h
    · simp [World.cell?, Array.getElem?_eq_none h] at ht0
  have el := ec_elemV109 ⟨w.heap.size, 0, none⟩ t (((w.alloc (.cells #[.pointer (some t)] 109)).alloc (.cells #[.pointer (some ⟨4, 109, none⟩), .pointer (some ⟨w.heap.size, 0, none⟩), .int .u64 150] 148)).alloc (.cells #[.pointer (some ⟨4, 109, none⟩), .pointer (some ⟨w.heap.size, 0, none⟩), .int .u64 150] 148)) (by rw [World.cell?_alloc_lt _ _ ⟨w.heap.size, 0, none⟩ (by simp; omega)]; simp)
  have st := ec_set103 t ⟨w.heap.size + 1 + 1 + 1, 0, none⟩ s old ((((w.alloc (.cells #[.pointer (some t)] 109)).alloc (.cells #[.pointer (some ⟨4, 109, none⟩), .pointer (some ⟨w.heap.size, 0, none⟩), .int .u64 150] 148)).alloc (.cells #[.pointer (some ⟨4, 109, none⟩), .pointer (some ⟨w.heap.size, 0, none⟩), .int .u64 150] 148)).alloc (.cells #[.string s] 103))
    (by rw [World.cell?_alloc_at _ _ _ _ (by simp)]; rfl)
    (by rw [World.cell?_alloc_lt _ _ t (by simp; omega), World.cell?_alloc_lt _ _ t (by simp; omega), World.cell?_alloc_lt _ _ t (by simp; omega), World.cell?_alloc_lt _ _ t htl]; exact ht0)
    (by rw [World.frozen?_alloc_old _ _ t (by simp; omega), World.frozen?_alloc_old _ _ t (by simp; omega), World.frozen?_alloc_old _ _ t (by simp; omega), World.frozen?_alloc_old _ _ t (Nat.ne_of_lt htl)]; exact hf0)
  go_enter Tryd.func32, Tryd.ntmps32
  go_wp2
  refine wp_loop_rounds 1 ?_
  rw [rounds_succ]
  go_wp2
  go_ret
  exact ⟨rfl, rfl⟩

/-- errors.As with a nil error is not reached: impl.code asks for nil first. impl.code of nil. -/
theorem code_nil (w : World) : Calls Tryd.prog 20 #[.nilIface] w fun e w' => e = .returned (.int .i64 0) ∧ Chg (fun _ => False) w w' := by
  go_enter Tryd.func20, Tryd.ntmps20
  go_wp2_with fail
  go_ret
  exact ⟨rfl, ((Chg.refl _ w).alloc _).alloc _⟩

theorem code_format (s : ByteArray) (w : World) (hg : w.cell? ⟨0, 0, none⟩ = some (.iface 161 (.agg #[.pointer (some ⟨4, 55, none⟩)]))) :
    Calls Tryd.prog 20 #[.iface 103 (.string s)] w fun e w' => e = .returned (.int .i64 1) ∧ Chg (fun _ => False) w w' := by
  have hlt : 0 < w.heap.size := World.block_lt_of_cell? _ _ hg
  go_enter Tryd.func20, Tryd.ntmps20
  go_wp2_with fail
  refine (is_format s _).mono ?_
  rintro e w1 ⟨rfl, rfl⟩
  go_wp2_with fail
  refine (as_format s ⟨w.heap.size, 0, none⟩ (.string ⟨#[]⟩) _ ?_ ?_ ?_).mono ?_
  · rw [World.cell?_alloc_lt _ _ ⟨0, 0, none⟩ (by simp), World.cell?_alloc_lt _ _ ⟨0, 0, none⟩ hlt]; exact hg
  · rw [World.cell?_alloc_lt _ _ ⟨w.heap.size, 0, none⟩ (by simp), World.cell?_alloc_new]; rfl
  · rw [World.frozen?_alloc_old _ _ ⟨w.heap.size, 0, none⟩ (by simp), World.frozen?_alloc_new]
  rintro e w1 ⟨rfl, hw1⟩
  have hc : Chg (fun _ => False) w w1 := by
    rw [hw1]
    exact Chg.setCell ((((((Chg.refl _ w).alloc _).alloc _).alloc _).alloc _ |>.alloc _).alloc _) (fun h => by simp at h) _
  clear hw1
  go_wp2_with fail
  go_ret
  exact ⟨rfl, hc⟩
end Go.Proofs.YtkkplbfbhmlnoaaDoor
