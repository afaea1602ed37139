/- laws.FnQuantization: true of every argument. Conditions: the argument is a slice of bytes; the three variables are laid. -/
import Derived.Test.YtkkplbfbhmlnoaaDoorQe
namespace Go.Proofs.YtkkplbfbhmlnoaaDoor
open Go.RowKit

theorem qRun_code_le : ∀ (k : Nat) (T : Nat → Nat → Nat) (l : List UInt8), (qRun k T l).2 ≤ 2
  | 0, _, _ => Nat.zero_le _
  | _ + 1, _, [] => Nat.zero_le _
  | k + 1, T, x :: xs => by
    simp only [qRun]
    split
    · exact Nat.le_succ _
    · split
      · split <;> simp
      · exact qRun_code_le k _ _
theorem qRun_small : ∀ (k : Nat) (T : Nat → Nat → Nat) (l : List UInt8), (∀ i j, T i j < 65536) → ∀ i j, (qRun k T l).1 i j < 65536
  | 0, _, _, h => h
  | _ + 1, _, [], h => h
  | k + 1, T, x :: xs, h => by
    simp only [qRun]
    split
    · exact h
    · split
      · exact h
      · refine qRun_small k _ _ (fun i j => ?_)
        unfold qSet
        split
        · split
          · have := (xs.getD j 0).toNat_lt; omega
          · have := (xs.getD (2 * j) 0).toNat_lt; have := (xs.getD (2 * j + 1) 0).toNat_lt; omega
        · exact h i j

theorem und23 : Tryd.prog.underlying 23 = some (.array 64 3) := by kernel_rfl
theorem agg3 (w : World) : (isAgg 3).run Tryd.prog w = .ok false w := by kernel_rfl
theorem size3 (w : World) : (sizeOf 3).run Tryd.prog w = .ok 1 w := by kernel_rfl
theorem arrT23 : ArrT Tryd.prog 23 64 := ⟨fun w => by kernel_rfl, fun w => by kernel_rfl⟩
theorem run_index23 (f : Nat → Value) (j : Nat) (hj : j < 64) (w : World) : (Instr.index 23 (.agg (arr 64 f)) (.int .i64 (j : Int))).run Tryd.prog w = .ok (f j) w := by
  have h1 : (0 : Int) ≤ (j : Int) ∧ (j : Int) < ((64 : Nat) : Int) := by omega
  have h2 : (arr 64 f)[j]? = some (f j) := arr_get _ _ _ hj
  simp [Instr.index, run_underlying und23, asIntOf, part, Sem.run_bind, agg3, size3, h1, h2]
  omega

section
variable {w : World} {ops : Array Oper} {rest : List Oper} {o : Oper} {a : Act} {Q : Exit → Act → World → Prop}
theorem wpList_index23 (hgd : o.guard = none) (x y : Operand) (ho : o.op = .index 23 x y) (f : Nat → Value) (j : Nat) (hx : a.eval x = .agg (arr 64 f)) (hy : a.eval y = .int .i64 (j : Int)) (hj : j < 64) {v : Value} (hv : f j = v)
    (h : wpList Tryd.prog ops Q rest (a.put o.dst v) w) : wpList Tryd.prog ops Q (o :: rest) a w := by
  refine wpList_value hgd (v := v) (w' := w) ?_ h
  unfold execOp
  simp only [ho, hx, hy]
  simp [Sem.run_bind, run_index23 f j hj w, hv]
theorem run_alloc24 (w : World) : (Instr.alloc 24 true (.tuple #[])).run Tryd.prog w = .ok (.pointer (some ⟨w.heap.size, 0, none⟩)) (w.alloc (.cells (arr 256 tZero) 24)) := by kernel_rfl
theorem wpList_alloc24 (hgd : o.guard = none) (ho : o.op = .alloc 24) (h : wpList Tryd.prog ops Q rest (a.put o.dst (.pointer (some ⟨w.heap.size, 0, none⟩))) (w.alloc (.cells (arr 256 tZero) 24))) : wpList Tryd.prog ops Q (o :: rest) a w := by
  refine wpList_value hgd (v := .pointer (some ⟨w.heap.size, 0, none⟩)) (w' := w.alloc (.cells (arr 256 tZero) 24)) ?_ h
  unfold execOp
  simp only [ho]
  simp [Sem.run_bind, run_alloc24 w]
end

/-- An array laid into a variable that is new. -/
theorem newArr {w : World} {m : Nat} (hm : w.heap.size = m) (t : TypeId) (z g : Nat → Value) : Blk ((w.alloc (.cells (arr 256 z) t)).setCells m 0 ((List.range 256).map g)) m 256 g ∧ Chg (fun _ => False) w ((w.alloc (.cells (arr 256 z) t)).setCells m 0 ((List.range 256).map g)) ∧
    (∀ k, k < 256 → ((w.alloc (.cells (arr 256 z) t)).cell? ⟨m, 0 + k, none⟩).isSome = true) ∧ (∀ k, k < 256 → (w.alloc (.cells (arr 256 z) t)).frozen? ⟨m, 0 + k, none⟩ = false) := by
  subst hm
  have A := Blk.ofNew w (arr 256 z) t 256 z (fun k hk => arr_get _ _ _ hk)
  refine ⟨(A.setCells 0 _ (by simp)).congr (fun k hk => ?_), Chg.setCells _ (fun h => absurd h (by omega)) _ _ _ ((Chg.refl _ w).alloc _), fun k hk => by rw [Nat.zero_add, A.cell k hk]; rfl, fun k _ => A.free _⟩
  have := updRow_in z 0 ((List.range 256).map g) k (by simp; omega)
  rw [Nat.zero_add] at this
  rw [this]
  simp

def LawPost (w : World) (e : Ending) (w' : World) : Prop := e = .returned (.bool true) ∧ Chg (fun _ => False) w w'

set_option maxRecDepth 100000 in
set_option maxHeartbeats 4000000 in
theorem lawQ_any (a1 a2 : Addr) (base : Option Addr) (cap : Nat) (l : List UInt8) (w : World) (hG : Glob w a1 a2) (hc : l.length ≤ cap) (hm : cap ≤ 4611686018427387904) (hb : Bytes w (fun k => k < w.heap.size) base l) :
    Calls Tryd.prog 3 #[.slice base l.length cap] w (LawPost w) := by
  have hlm : (l.length : Int) ≤ 4611686018427387904 := by omega
  have SP := Lib.hid (specQ_any base cap l w hc hm hb)
  have IM : Hid (∀ W, Chg (fun _ => False) w W → Calls Tryd.prog 9 #[.slice base l.length cap] W (IQPost W (qRun (l.length + 1) (fun _ _ => 0) l))) := fun W hW =>
    implQ_any a1 a2 base cap l W (hG.chg hW (fun _ _ h => h)) hc hm ((hb.chg hW (fun _ _ h => h)).mono (fun k hk => Nat.lt_of_lt_of_le hk hW.size))
  have IM2 : Hid (∀ W, Chg (fun _ => False) w W → Calls Tryd.prog 9 #[.slice (some ⟨W.heap.size, 0, none⟩) 1 1] (W.alloc (.cells #[.int .u8 32] 5)) (fun e w' => Chg (fun _ => False) (W.alloc (.cells #[.int .u8 32] 5)) w' ∧ e = .returned (.tuple #[.agg (arr 256 (tQ (qRun 2 (fun _ _ => 0) [32]).1)), .int .i64 1]))) := fun W hW =>
    implQ_any a1 a2 (some ⟨W.heap.size, 0, none⟩) 1 [32] (W.alloc (.cells #[.int .u8 32] 5)) (hG.chg (hW.alloc _) (fun _ _ h => h)) (Nat.le_refl _) (by decide) (.inr ⟨_, 0, rfl, by simp, by simp, fun k hk => by
      obtain rfl : k = 0 := by simpa using hk
      rw [World.cell?_alloc_new]
      rfl⟩)
  have hcode := qRun_code_le (l.length + 1) (fun _ _ => 0) l
  have HS : Hid (∀ i j, (qRun (l.length + 1) (fun _ _ => 0) l).1 i j < 65536) := qRun_small _ _ _ (fun _ _ => by decide)
  generalize qRun (l.length + 1) (fun _ _ => 0) l = R at *
  clear hG hc hm hb
  go_enter Tryd.func3, Tryd.ntmps3
  by_cases hlen : 2147483647 < (l.length : Int)
  · have FIN : Hid (LawPost w (.returned (.bool true)) w) := ⟨rfl, Chg.refl _ w⟩
    go_wp2_with fail
    go_ret
    exact FIN.out
  have hlen' : decide (2147483647 < (l.length : Int)) = false := by simp; omega
  go_wp2_with fail
  refine SP.out.mono ?_
  rintro e w1 ⟨rfl, hC1⟩
  obtain ⟨m1, hm1⟩ : ∃ m, w1.heap.size = m := ⟨_, rfl⟩
  have al : Hid (∀ {a : Act} {ops : Array Oper} {rest : List Oper} {o : Oper} {Q : Exit → Act → World → Prop}, o.guard = none → o.op = .alloc 24 → wpList Tryd.prog ops Q rest (a.put o.dst (.pointer (some ⟨m1, 0, none⟩))) (w1.alloc (.cells (arr 256 tZero) 24)) → wpList Tryd.prog ops Q (o :: rest) a w1) := by
    intro a ops rest o Q h1 h2 h3
    rw [← hm1] at h3
    exact wpList_alloc24 h1 h2 h3
  have NA := Lib.hid (newArr hm1 24 tZero (tF R.1))
  have O1 : Hid (∀ k, k < 256 → (tF R.1 k).oneCell' = true) := fun k hk => rfl
  obtain ⟨tf, htf⟩ : ∃ tf, tF R.1 = tf := ⟨_, rfl⟩
  rw [htf] at NA O1
  rw [htf]
  have HT := Lib.hid htf
  have L1 := Nat.le_trans hC1.size (Nat.le_of_eq hm1)
  clear htf hm1
  by_cases h2 : R.2 = 2
  · rw [h2]
    have FIN : Hid (∀ W, Blk W m1 256 tf ∧ Chg (fun _ => False) w W → LawPost w (.returned (.bool true)) W) := fun W h => ⟨rfl, h.2⟩
    go_wp2_with (first | (refine al.out rfl rfl ?_; simp only [Act.put, List.setIfInBounds_toArray, List.set]) | (refine wpList_storeArr (g := m1) (o' := 0) ?_ arrT24 (.tmp 3) (.tmp 17) ?_ ?_ tf ?_ ?_ ?_ O1.out ?_; exact rfl; exact rfl; exact rfl; exact rfl; exact NA.out.2.2.1; exact NA.out.2.2.2; simp only [Act.put, List.setIfInBounds_toArray, List.set]; refine cutG (fun W => Blk W m1 256 tf ∧ Chg (fun _ => False) w W) ⟨NA.out.1, hC1.trans NA.out.2.1⟩ ?_; intro W1 hW1; have HW1 := Lib.hid hW1; clear hW1))
    go_ret
    exact FIN.out _ HW1.out
  have hR : R.2 = 0 ∨ R.2 = 1 := by omega
  clear h2 hcode
  obtain ⟨tq, htq⟩ : ∃ tq, tQ R.1 = tq := ⟨_, rfl⟩
  have HQ := Lib.hid htq
  rcases hR with hR | hR
  · have d0 : decide (R.2 = 0) = true := by rw [hR]; rfl
    have d2 : decide (R.2 = 2) = false := by rw [hR]; rfl
    rw [d0, d2]
    go_wp2_with (first | (refine al.out rfl rfl ?_; simp only [Act.put, List.setIfInBounds_toArray, List.set]) | (refine wpList_storeArr (g := m1) (o' := 0) ?_ arrT24 (.tmp 3) (.tmp 17) ?_ ?_ tf ?_ ?_ ?_ O1.out ?_; exact rfl; exact rfl; exact rfl; exact rfl; exact NA.out.2.2.1; exact NA.out.2.2.2; simp only [Act.put, List.setIfInBounds_toArray, List.set]; refine cutG (fun W => Blk W m1 256 tf ∧ Chg (fun _ => False) w W) ⟨NA.out.1, hC1.trans NA.out.2.1⟩ ?_; intro W1 hW1; have HW1 := Lib.hid hW1; clear hW1))
    refine (IM.out _ HW1.out.2).mono ?_
    rintro e w2 ⟨hC2, rfl⟩
    have dc : (if R.2 = 1 then (1 : Int) else 0) = 0 := by rw [hR]; rfl
    rw [dc, htq]
    obtain ⟨m2, hm2⟩ : ∃ m, w2.heap.size = m := ⟨_, rfl⟩
    have al2 : Hid (∀ {a : Act} {ops : Array Oper} {rest : List Oper} {o : Oper} {Q : Exit → Act → World → Prop}, o.guard = none → o.op = .alloc 28 → wpList Tryd.prog ops Q rest (a.put o.dst (.pointer (some ⟨m2, 0, none⟩))) (w2.alloc (.cells (arr 256 qZero) 28)) → wpList Tryd.prog ops Q (o :: rest) a w2) := by
      intro a ops rest o Q h1 h2 h3
      rw [← hm2] at h3
      exact wpList_alloc28 h1 h2 h3
    have NB := Lib.hid (newArr hm2 28 qZero tq)
    have O2 : Hid (∀ k, k < 256 → (tq k).oneCell' = true) := fun k hk => by rw [← htq]; rfl
    have C2 := HW1.out.2.trans hC2
    have B1 := Lib.hid (HW1.out.1.chg hC2 id)
    have CA := Lib.hid C2
    clear d0 d2 dc al NA O1 HW1 htq hm2 hC1 hC2 C2 SP
    go_wp2_with (first | (refine al2.out rfl rfl ?_; simp only [Act.put, List.setIfInBounds_toArray, List.set]) | (refine wpList_storeArr (g := m2) (o' := 0) ?_ arrT28 (.tmp 6) (.tmp 24) ?_ ?_ tq ?_ ?_ ?_ O2.out ?_; exact rfl; exact rfl; exact rfl; exact rfl; exact NB.out.2.2.1; exact NB.out.2.2.2; simp only [Act.put, List.setIfInBounds_toArray, List.set]; refine cutG (fun W => Blk W m2 256 tq ∧ Blk W m1 256 tf ∧ Chg (fun _ => False) w W) ⟨NB.out.1, B1.out.chg NB.out.2.1 id, CA.out.trans NB.out.2.1⟩ ?_; intro W2 hW2; have HW2 := Lib.hid hW2; clear hW2))
    clear al2 NB O2 B1 CA
    go_loopg [30] 4 (fun k v wr => ∃ i : Nat, v = .int .i64 (i : Int) ∧ i + k = 4 ∧ W2 = wr)
    case atStart => exact ⟨0, rfl, rfl, rfl⟩
    case round =>
      obtain ⟨i, rfl, hik, rfl⟩ := hrel
      by_cases hi : i < 4
      · have hi' : (i : Int) < 4 := by omega
        obtain ⟨kk, rfl⟩ : ∃ kk, gk = kk + 1 := ⟨gk - 1, by omega⟩
        obtain ⟨fi, hfi⟩ : ∃ fi : Nat → Value, (fun t => tf (i * 64 + t)) = fi := ⟨_, rfl⟩
        have CF : Hid (∀ t, t < 64 → W2.cell? ⟨m1, i * 64 + t, none⟩ = some (fi t)) := fun t ht => by rw [← hfi]; exact HW2.out.2.1.cell _ (by omega)
        have HF := Lib.hid hfi
        clear hfi
        go_wp2_with (refine wpList_loadArr (g := m1) (o' := i * 64) ?_ arrT23 (.tmp 34) ?_ ?_ fi ?_ ?_; exact rfl; exact rfl; exact rfl; exact CF.out)
        clear CF
        go_loopg [36] 64 (fun k v wr => ∃ j : Nat, v = .int .i64 (j : Int) ∧ j + k = 64 ∧ W2 = wr)
        case atStart => exact ⟨0, rfl, rfl, rfl⟩
        case round =>
          obtain ⟨j, rfl, hjk, rfl⟩ := hrel
          by_cases hj : j < 64
          · have hj' : (j : Int) < 64 := by omega
            obtain ⟨v, hv, hfj, hcg⟩ : ∃ v : Nat, v < 65536 ∧ fi j = .int .i64 (v : Int) ∧ W2.cell? ⟨m2, i * 64 + j, none⟩ = some (.int .i32 (v : Int)) :=
              ⟨R.1 ((i * 64 + j) / 64) ((i * 64 + j) % 64), HS.out _ _, by rw [← HF.out]; show tf (i * 64 + j) = _; rw [← HT.out]; rfl, by rw [HW2.out.1.cell _ (by omega), ← HQ.out]; rfl⟩
            have hvi : (v : Int) < 65536 := by omega
            go_wp2_with (refine wpList_index23 ?_ (.tmp 35) (.tmp 36) ?_ fi j ?_ ?_ hj hfj ?_; exact rfl; exact rfl; exact rfl; exact rfl)
            go_roundg (gk - 1)
            case measure => omega
            case rel => exact ⟨j + 1, by go_num, by omega, rfl⟩
          · obtain rfl : j = 64 := by omega
            clear hj
            go_wp2_with fail
            go_roundg kk
            case measure => omega
            case rel => exact ⟨i + 1, by go_num, by omega, rfl⟩
      · obtain rfl : i = 4 := by omega
        clear hi
        go_wp2_with fail
        refine (IM2.out _ HW2.out.2.2).mono ?_
        rintro e w3 ⟨hC3, rfl⟩
        have FIN : Hid (LawPost w (.returned (.bool true)) w3) := ⟨rfl, HW2.out.2.2.trans ((Chg.refl _ _).alloc _ |>.trans hC3)⟩
        clear hC3
        go_wp2_with fail
        go_ret
        exact FIN.out
  · have d0 : decide (R.2 = 0) = false := by rw [hR]; rfl
    have d2 : decide (R.2 = 2) = false := by rw [hR]; rfl
    rw [d0, d2]
    go_wp2_with (first | (refine al.out rfl rfl ?_; simp only [Act.put, List.setIfInBounds_toArray, List.set]) | (refine wpList_storeArr (g := m1) (o' := 0) ?_ arrT24 (.tmp 3) (.tmp 17) ?_ ?_ tf ?_ ?_ ?_ O1.out ?_; exact rfl; exact rfl; exact rfl; exact rfl; exact NA.out.2.2.1; exact NA.out.2.2.2; simp only [Act.put, List.setIfInBounds_toArray, List.set]; refine cutG (fun W => Blk W m1 256 tf ∧ Chg (fun _ => False) w W) ⟨NA.out.1, hC1.trans NA.out.2.1⟩ ?_; intro W1 hW1; have HW1 := Lib.hid hW1; clear hW1))
    refine (IM.out _ HW1.out.2).mono ?_
    rintro e w2 ⟨hC2, rfl⟩
    have dc : (if R.2 = 1 then (1 : Int) else 0) = 1 := by rw [hR]; rfl
    rw [dc, htq]
    obtain ⟨m2, hm2⟩ : ∃ m, w2.heap.size = m := ⟨_, rfl⟩
    have al2 : Hid (∀ {a : Act} {ops : Array Oper} {rest : List Oper} {o : Oper} {Q : Exit → Act → World → Prop}, o.guard = none → o.op = .alloc 28 → wpList Tryd.prog ops Q rest (a.put o.dst (.pointer (some ⟨m2, 0, none⟩))) (w2.alloc (.cells (arr 256 qZero) 28)) → wpList Tryd.prog ops Q (o :: rest) a w2) := by
      intro a ops rest o Q h1 h2 h3
      rw [← hm2] at h3
      exact wpList_alloc28 h1 h2 h3
    have NB := Lib.hid (newArr hm2 28 qZero tq)
    have O2 : Hid (∀ k, k < 256 → (tq k).oneCell' = true) := fun k hk => by rw [← htq]; rfl
    have C2 := HW1.out.2.trans hC2
    have B1 := Lib.hid (HW1.out.1.chg hC2 id)
    have CA := Lib.hid C2
    clear d0 d2 dc al NA O1 HW1 htq hm2 hC1 hC2 C2 SP
    go_wp2_with (first | (refine al2.out rfl rfl ?_; simp only [Act.put, List.setIfInBounds_toArray, List.set]) | (refine wpList_storeArr (g := m2) (o' := 0) ?_ arrT28 (.tmp 6) (.tmp 24) ?_ ?_ tq ?_ ?_ ?_ O2.out ?_; exact rfl; exact rfl; exact rfl; exact rfl; exact NB.out.2.2.1; exact NB.out.2.2.2; simp only [Act.put, List.setIfInBounds_toArray, List.set]; refine cutG (fun W => Blk W m2 256 tq ∧ Blk W m1 256 tf ∧ Chg (fun _ => False) w W) ⟨NB.out.1, B1.out.chg NB.out.2.1 id, CA.out.trans NB.out.2.1⟩ ?_; intro W2 hW2; have HW2 := Lib.hid hW2; clear hW2))
    clear al2 NB O2 B1 CA
    go_loopg [30] 4 (fun k v wr => ∃ i : Nat, v = .int .i64 (i : Int) ∧ i + k = 4 ∧ W2 = wr)
    case atStart => exact ⟨0, rfl, rfl, rfl⟩
    case round =>
      obtain ⟨i, rfl, hik, rfl⟩ := hrel
      by_cases hi : i < 4
      · have hi' : (i : Int) < 4 := by omega
        obtain ⟨kk, rfl⟩ : ∃ kk, gk = kk + 1 := ⟨gk - 1, by omega⟩
        obtain ⟨fi, hfi⟩ : ∃ fi : Nat → Value, (fun t => tf (i * 64 + t)) = fi := ⟨_, rfl⟩
        have CF : Hid (∀ t, t < 64 → W2.cell? ⟨m1, i * 64 + t, none⟩ = some (fi t)) := fun t ht => by rw [← hfi]; exact HW2.out.2.1.cell _ (by omega)
        have HF := Lib.hid hfi
        clear hfi
        go_wp2_with (refine wpList_loadArr (g := m1) (o' := i * 64) ?_ arrT23 (.tmp 34) ?_ ?_ fi ?_ ?_; exact rfl; exact rfl; exact rfl; exact CF.out)
        clear CF
        go_loopg [36] 64 (fun k v wr => ∃ j : Nat, v = .int .i64 (j : Int) ∧ j + k = 64 ∧ W2 = wr)
        case atStart => exact ⟨0, rfl, rfl, rfl⟩
        case round =>
          obtain ⟨j, rfl, hjk, rfl⟩ := hrel
          by_cases hj : j < 64
          · have hj' : (j : Int) < 64 := by omega
            obtain ⟨v, hv, hfj, hcg⟩ : ∃ v : Nat, v < 65536 ∧ fi j = .int .i64 (v : Int) ∧ W2.cell? ⟨m2, i * 64 + j, none⟩ = some (.int .i32 (v : Int)) :=
              ⟨R.1 ((i * 64 + j) / 64) ((i * 64 + j) % 64), HS.out _ _, by rw [← HF.out]; show tf (i * 64 + j) = _; rw [← HT.out]; rfl, by rw [HW2.out.1.cell _ (by omega), ← HQ.out]; rfl⟩
            have hvi : (v : Int) < 65536 := by omega
            go_wp2_with (refine wpList_index23 ?_ (.tmp 35) (.tmp 36) ?_ fi j ?_ ?_ hj hfj ?_; exact rfl; exact rfl; exact rfl; exact rfl)
            go_roundg (gk - 1)
            case measure => omega
            case rel => exact ⟨j + 1, by go_num, by omega, rfl⟩
          · obtain rfl : j = 64 := by omega
            clear hj
            go_wp2_with fail
            go_roundg kk
            case measure => omega
            case rel => exact ⟨i + 1, by go_num, by omega, rfl⟩
      · obtain rfl : i = 4 := by omega
        clear hi
        go_wp2_with fail
        refine (IM2.out _ HW2.out.2.2).mono ?_
        rintro e w3 ⟨hC3, rfl⟩
        have FIN : Hid (LawPost w (.returned (.bool true)) w3) := ⟨rfl, HW2.out.2.2.trans ((Chg.refl _ _).alloc _ |>.trans hC3)⟩
        clear hC3
        go_wp2_with fail
        go_ret
        exact FIN.out
end Go.Proofs.YtkkplbfbhmlnoaaDoor
