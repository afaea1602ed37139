/- impl.Quantization: what it returns. Conditions: the argument is a slice of bytes; the three variables are laid. -/
import Derived.Test.YtkkplbfbhmlnoaaDoorQd
import Derived.Test.YtkkplbfbhmlnoaaDoorEd
namespace Go.Proofs.YtkkplbfbhmlnoaaDoor
open Go.RowKit

def IQPost (w : World) (R : (Nat → Nat → Nat) × Nat) (e : Ending) (w' : World) : Prop :=
  Chg (fun _ => False) w w' ∧ e = .returned (.tuple #[.agg (arr 256 (tQ R.1)), .int .i64 (if R.2 = 1 then 1 else 0)])

/-- What the last region needs to know of the world. -/
structure IW (w W : World) (m n : Nat) (tq f : Nat → Value) : Prop where
  src : Blk W m 256 tq
  dst : Blk W n 256 f
  chg : Chg (fun _ => False) w W
theorem IW.drew {w W : World} {m n : Nat} {tq f : Nat → Value} (h : IW w W m n tq f) : IW w W.drew m n tq f := ⟨h.src.drew, h.dst.drew, h.chg.drew⟩
theorem IW.to {w W W' : World} {m n : Nat} {tq f : Nat → Value} (h : IW w W m n tq f) (C : Chg (fun _ => False) W W') : IW w W' m n tq f := ⟨h.src.chg C id, h.dst.chg C id, h.chg.trans C⟩
theorem IW.store {w W : World} {m n : Nat} {tq f : Nat → Value} (h : IW w W m n tq f) (hmn : n ≠ m) (hn : w.heap.size ≤ n) : IW w (W.setCells n 0 ((List.range 256).map tq)) m n tq tq :=
  ⟨h.src.setOthers hmn _ _, (h.dst.setCells 0 _ (by simp)).congr (fun k hk => by
    have := updRow_in f 0 ((List.range 256).map tq) k (by simp; omega)
    rw [Nat.zero_add] at this
    rw [this]
    simp), Chg.setCells n (fun h => absurd h (by omega)) _ _ _ h.chg⟩

set_option maxRecDepth 100000 in
set_option maxHeartbeats 4000000 in
theorem implQ_any (a1 a2 : Addr) (base : Option Addr) (cap : Nat) (l : List UInt8) (w : World) (hG : Glob w a1 a2) (hc : l.length ≤ cap) (hm : cap ≤ 4611686018427387904) (hb : Bytes w (fun k => k < w.heap.size) base l) :
    Calls Tryd.prog 9 #[.slice base l.length cap] w (IQPost w (qRun (l.length + 1) (fun _ _ => 0) l)) := by
  obtain ⟨n, hn⟩ : ∃ n, w.heap.size = n := ⟨_, rfl⟩
  have ZQ : Hid (Calls Tryd.prog 19 #[.slice base l.length cap] (w.alloc (.cells (arr 256 qZero) 28)) (ZQPost (w.alloc (.cells (arr 256 qZero) 28)) (qRun (l.length + 1) (fun _ _ => 0) l))) :=
    zzQ_any a1 a2 base cap l _ (hG.chg ((Chg.refl (fun _ => False) w).alloc _) (fun _ _ h => h)) hc hm ((hb.chg ((Chg.refl (fun _ => False) w).alloc _) (fun _ _ h => h)).mono (fun k hk => by rw [World.size_alloc]; omega))
  have HG := Lib.hid hG
  generalize qRun (l.length + 1) (fun _ _ => 0) l = R at *
  clear hG hc hm hb
  go_enter Tryd.func9, Tryd.ntmps9
  go_wp2_with (refine wpList_alloc28 rfl rfl ?_; simp only [Act.put, List.setIfInBounds_toArray, List.set])
  refine ZQ.out.mono ?_
  rintro e w1 ⟨hC, er, rfl, her⟩
  have D1 := hC.size
  rw [World.size_alloc, hn] at D1
  have B1 : Blk w1 n 256 qZero := by
    rw [← hn]
    exact (Blk.ofNew w _ 28 256 _ (fun k hk => arr_get _ _ _ hk)).chg hC id
  have C1 : Chg (fun _ => False) w w1 := ((Chg.refl _ w).alloc _).trans hC
  have HC : Hid (∀ W, Chg (fun _ => False) w W → Calls Tryd.prog 20 #[er] W (fun e w' => e = .returned (.int .i64 (if R.2 = 1 then 1 else 0)) ∧ Chg (fun _ => False) W w')) := by
    intro W hW
    rcases her with ⟨h1, rfl⟩ | ⟨h1, s, rfl⟩
    · rw [if_neg h1]; exact code_nil W
    · rw [if_pos h1]; exact code_format s W (HG.out.chg hW (fun _ _ h => h)).g0
  obtain ⟨c, hcc⟩ : ∃ c : Int, (if R.2 = 1 then (1 : Int) else 0) = c := ⟨_, rfl⟩
  rw [hcc] at HC
  obtain ⟨tq, htq⟩ : ∃ tq, tQ R.1 = tq := ⟨_, rfl⟩
  rw [htq]
  have O1 : Hid (∀ k, k < 256 → (tq k).oneCell' = true) := fun k hk => by rw [← htq]; rfl
  have CC := Lib.hid (And.intro hcc htq)
  obtain ⟨m, hm⟩ : ∃ m, w1.heap.size = m := ⟨_, rfl⟩
  have I2 : Hid (IW w ((w1.alloc (.cells (arr 256 qZero) 28)).setCells m 0 ((List.range 256).map tq)) m n tq qZero) := by
    have A := Blk.ofNew w1 (arr 256 qZero) 28 256 _ (fun k hk => arr_get _ _ _ hk)
    rw [hm] at A
    refine ⟨(A.setCells 0 _ (by simp)).congr (fun k hk => ?_), (B1.alloc _).setOthers (by omega) _ _, Chg.setCells m (fun h => absurd h (by omega)) _ _ _ (C1.alloc _)⟩
    have := updRow_in qZero 0 ((List.range 256).map tq) k (by simp; omega)
    rw [Nat.zero_add] at this
    rw [this]
    simp
  have CS : Hid (∀ k, k < 256 → ((w1.alloc (.cells (arr 256 qZero) 28)).cell? ⟨m, 0 + k, none⟩).isSome = true) := fun k hk => by
    rw [← hm, Nat.zero_add, (Blk.ofNew w1 (arr 256 qZero) 28 256 _ (fun k hk => arr_get _ _ _ hk)).cell k hk]; rfl
  have FS : Hid (∀ k, k < 256 → (w1.alloc (.cells (arr 256 qZero) 28)).frozen? ⟨m, 0 + k, none⟩ = false) := fun k hk => by
    rw [← hm]; exact (Blk.ofNew w1 (arr 256 qZero) 28 256 _ (fun k hk => arr_get _ _ _ hk)).free _
  have hnm : n ≠ m := by omega
  have hwn : w.heap.size ≤ n := by omega
  clear hC her hcc htq ZQ B1 C1 D1
  have al : Hid (∀ {a : Act} {ops : Array Oper} {rest : List Oper} {o : Oper} {Q : Exit → Act → World → Prop}, o.guard = none → o.op = .alloc 28 → wpList Tryd.prog ops Q rest (a.put o.dst (.pointer (some ⟨m, 0, none⟩))) (w1.alloc (.cells (arr 256 qZero) 28)) → wpList Tryd.prog ops Q (o :: rest) a w1) := by
    intro a ops rest o Q h1 h2 h3
    rw [← hm] at h3
    exact wpList_alloc28 h1 h2 h3
  clear hm
  go_wp2_with (first | (refine al.out rfl rfl ?_; simp only [Act.put, List.setIfInBounds_toArray, List.set]) | (refine wpList_storeArr (g := m) (o' := 0) ?_ arrT28 (.tmp 4) (.tmp 9) ?_ ?_ tq ?_ ?_ ?_ O1.out ?_; exact rfl; exact rfl; exact rfl; exact rfl; exact CS.out; exact FS.out; simp only [Act.put, List.setIfInBounds_toArray, List.set]))
  refine cutW (fun W => IW w W m n tq qZero) I2.out ?_
  clear I2 CS FS al
  intro W hW
  have HW := Lib.hid hW.drew
  clear hW
  refine wp_region_any (by kernel_rfl) ?_
  change wpAny _ _ _ _ _ _ _ (World.drew _)
  refine wpAny_take (i := 1) (v := er) rfl (by kernel_rfl) (by kernel_rfl) (by kernel_rfl) (fun _ _ _ h => h) (Or.inl ⟨by rfl, ?_⟩) ?_
  · intro w; go_simp
  · refine wpAny_ready (rs := [0, 2]) (by kernel_rfl) (by simp) ?_
    refine AllReady.cons (o := { dst := some 11, op := .load 28 (.tmp 4), type := _, pos := _, after := _, guard := none }) rfl (fun K hK => ?_) ?_
    · rw [if_pos (by kernel_rfl)]
      refine oper_value (run_loadArrOp (g := m) (o' := 0) arrT28 (.tmp 4) rfl rfl tq (fun k hk => by rw [Nat.zero_add]; exact HW.out.src.cell k hk)) ?_
      simp only [Act.put, List.setIfInBounds_toArray, List.set]
      refine hK _ _ ?_
      clear hK K
      refine wpAny_ready (rs := [2]) (by kernel_rfl) (by simp) ?_
      refine AllReady.cons (o := { dst := some 13, op := .call { callee := .value (.func 20), args := #[.tmp 12], argTypes := #[55] }, type := _, pos := _, after := _, guard := none }) rfl (fun K hK => ?_) AllReady.nil
      rw [if_pos (by kernel_rfl)]
      go_simp
      refine (HC.out _ HW.out.chg).mono ?_
      rintro e W2 ⟨rfl, hC2⟩
      have HW2 := Lib.hid (HW.out.to hC2)
      clear hC2
      simp only []
      go_simp
      try refine hK _ _ ?_
      try clear hK K
      refine wpAny_ready (rs := [3]) (by kernel_rfl) (by simp) ?_
      refine AllReady.cons (o := { dst := none, op := .store 28 (.tmp 2) (.tmp 11), type := _, pos := _, after := _, guard := none }) rfl (fun K hK => ?_) AllReady.nil
      rw [if_pos (by kernel_rfl)]
      refine oper_skip (run_storeArrOp (g := n) (o' := 0) arrT28 (.tmp 2) (.tmp 11) rfl rfl tq rfl (fun k hk => by rw [Nat.zero_add, HW2.out.dst.cell k hk]; rfl) (fun k hk => HW2.out.dst.free _) O1.out) ?_
      simp only [Act.put, List.setIfInBounds_toArray, List.set]
      have HW4 := Lib.hid (HW2.out.store hnm hwn)
      refine hK _ _ ?_
      clear hK K
      generalize W2.setCells n 0 ((List.range 256).map tq) = W3 at HW4 ⊢
      refine wpAny_ready (rs := [4]) (by kernel_rfl) (by simp) ?_
      refine AllReady.cons (o := { dst := some 3, op := .assign (.tmp 13), type := _, pos := _, after := _, guard := none }) rfl (fun K hK => ?_) AllReady.nil
      rw [if_pos (by kernel_rfl)]
      go_simp
      refine hK _ _ ?_
      clear hK K
      refine wpAny_done (by kernel_rfl) ?_ _
      go_wp2_with fail
      refine bodyPost_ret (results_arr2 rfl arrT28 rfl tq (fun k hk => HW4.out.dst.cell k hk)) rfl ?_
      exact ⟨HW4.out.chg, by rw [CC.out.1, CC.out.2]; rfl⟩
    refine AllReady.cons (o := { dst := some 13, op := .call { callee := .value (.func 20), args := #[.tmp 12], argTypes := #[55] }, type := _, pos := _, after := _, guard := none }) rfl (fun K hK => ?_) AllReady.nil
    rw [if_pos (by kernel_rfl)]
    go_simp
    refine (HC.out _ HW.out.chg).mono ?_
    rintro e W2 ⟨rfl, hC2⟩
    have HW2 := Lib.hid (HW.out.to hC2)
    clear hC2
    simp only []
    go_simp
    try refine hK _ _ ?_
    try clear hK K
    refine wpAny_ready (rs := [0]) (by kernel_rfl) (by simp) ?_
    refine AllReady.cons (o := { dst := some 11, op := .load 28 (.tmp 4), type := _, pos := _, after := _, guard := none }) rfl (fun K hK => ?_) AllReady.nil
    rw [if_pos (by kernel_rfl)]
    refine oper_value (run_loadArrOp (g := m) (o' := 0) arrT28 (.tmp 4) rfl rfl tq (fun k hk => by rw [Nat.zero_add]; exact HW2.out.src.cell k hk)) ?_
    simp only [Act.put, List.setIfInBounds_toArray, List.set]
    refine hK _ _ ?_
    clear hK K
    refine wpAny_ready (rs := [3]) (by kernel_rfl) (by simp) ?_
    refine AllReady.cons (o := { dst := none, op := .store 28 (.tmp 2) (.tmp 11), type := _, pos := _, after := _, guard := none }) rfl (fun K hK => ?_) AllReady.nil
    rw [if_pos (by kernel_rfl)]
    refine oper_skip (run_storeArrOp (g := n) (o' := 0) arrT28 (.tmp 2) (.tmp 11) rfl rfl tq rfl (fun k hk => by rw [Nat.zero_add, HW2.out.dst.cell k hk]; rfl) (fun k hk => HW2.out.dst.free _) O1.out) ?_
    simp only [Act.put, List.setIfInBounds_toArray, List.set]
    have HW4 := Lib.hid (HW2.out.store hnm hwn)
    refine hK _ _ ?_
    clear hK K
    generalize W2.setCells n 0 ((List.range 256).map tq) = W3 at HW4 ⊢
    refine wpAny_ready (rs := [4]) (by kernel_rfl) (by simp) ?_
    refine AllReady.cons (o := { dst := some 3, op := .assign (.tmp 13), type := _, pos := _, after := _, guard := none }) rfl (fun K hK => ?_) AllReady.nil
    rw [if_pos (by kernel_rfl)]
    go_simp
    refine hK _ _ ?_
    clear hK K
    refine wpAny_done (by kernel_rfl) ?_ _
    go_wp2_with fail
    refine bodyPost_ret (results_arr2 rfl arrT28 rfl tq (fun k hk => HW4.out.dst.cell k hk)) rfl ?_
    exact ⟨HW4.out.chg, by rw [CC.out.1, CC.out.2]; rfl⟩
end Go.Proofs.YtkkplbfbhmlnoaaDoor
