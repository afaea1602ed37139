/- ZZQuantization: what it returns. Conditions: the argument is a slice of bytes; the three variables are laid. -/
import Derived.Test.YtkkplbfbhmlnoaaDoorQc
import Derived.Test.YtkkplbfbhmlnoaaDoorDa
namespace Go.Proofs.YtkkplbfbhmlnoaaDoor
open Go.RowKit

theorem f0_small (r k : Nat) (h1 : 4 ≤ k) (h2 : k < 4100) : f0 r k = .int .u8 0 := by
  unfold f0
  rw [if_neg (by omega), if_neg (by omega), if_neg (by omega), if_pos h2]
theorem f0_quant (r k : Nat) (h1 : 8636 ≤ k) (h2 : k < 8892) : f0 r k = .int .i32 0 := by
  unfold f0
  rw [if_neg (by omega), if_neg (by omega), if_neg (by omega), if_neg (by omega), if_neg (by omega), if_neg (by omega), if_neg (by omega), if_pos h2]

theorem src_new {w W : World} {a1 a2 : Addr} (hG : Glob w a1 a2) {base : Option Addr} {l : List UInt8} {cap : Nat} (hc : l.length ≤ cap) (hm : cap ≤ 4611686018427387904) (hb : Bytes w (fun k => k < w.heap.size) base l) (C : Chg (fun _ => False) w W) {b r : Nat} (hbw : w.heap.size ≤ b) (hrw : w.heap.size ≤ r) (hne : r ≠ b)
    (B : Blk W b 9020 (f0 r)) (R : Blk W r 3 (rdF (.slice base l.length cap) 0 (.int .i64 (-1)))) : Src W b r a1 a2 (f0 r) base cap l l := by
  have := hG.lt
  refine ⟨0, 0, 0, fun _ => 0, ⟨hG.chg C (fun _ _ h => h), B, by omega, by omega, hne, rfl, rfl, rfl, Nat.le_refl _, by decide, fun k hk => f0_small r _ (by omega) (by omega), ⟨_, R⟩, Nat.zero_le _, hc, hm, (hb.chg C (fun _ _ h => h)).mono (fun k hk => ⟨by omega, by omega⟩)⟩, ?_⟩
  simp [bufd]

theorem arrT28 : ArrT Tryd.prog 28 256 := ⟨fun w => by kernel_rfl, fun w => by kernel_rfl⟩
theorem arrT27 : ArrT Tryd.prog 27 64 := ⟨fun w => by kernel_rfl, fun w => by kernel_rfl⟩
theorem arrT97 : ArrT Tryd.prog 97 64 := ⟨fun w => by kernel_rfl, fun w => by kernel_rfl⟩
def qZero : Nat → Value := fun _ => .int .i32 0
def tQ (T : Nat → Nat → Nat) : Nat → Value := fun c => .int .i32 ((T (c / 64) (c % 64) : Nat) : Int)

/-- i tables have been copied. -/
def qCop (T : Nat → Nat → Nat) (i : Nat) : Nat → Value := fun c => if c < 64 * i then tQ T c else .int .i32 0
theorem qCop_step (T : Nat → Nat → Nat) (i : Nat) (F : Nat → Value) (hF : ∀ c, c < 256 → F (8636 + c) = tQ T c) (hi : i < 4) :
    ∀ k, k < 256 → updRow (qCop T i) (i * 64) ((List.range 64).map fun t => F (8636 + i * 64 + t)) k = qCop T (i + 1) k := by
  intro k hk
  by_cases h : i * 64 ≤ k ∧ k < i * 64 + 64
  · obtain ⟨t, rfl⟩ : ∃ t, k = i * 64 + t := ⟨k - i * 64, by omega⟩
    rw [updRow_in _ _ _ _ (by simp; omega)]
    simp only [List.getElem_map, List.getElem_range]
    unfold qCop
    rw [if_pos (by omega), show 8636 + i * 64 + t = 8636 + (i * 64 + t) by omega, hF _ hk]
  · rw [updRow_out _ _ _ _ (by simp; omega)]
    unfold qCop
    by_cases h2 : k < 64 * i
    · rw [if_pos h2, if_pos (by omega)]
    · rw [if_neg h2, if_neg (by omega)]

def ZQPost (w : World) (R : (Nat → Nat → Nat) × Nat) (e : Ending) (w' : World) : Prop :=
  Chg (fun _ => False) w w' ∧ ∃ er, e = .returned (.tuple #[.agg (arr 256 (tQ R.1)), er]) ∧ ((R.2 ≠ 1 ∧ er = .nilIface) ∨ (R.2 = 1 ∧ ∃ s, er = .iface 103 (.string s)))

section
variable {w : World} {ops : Array Oper} {rest : List Oper} {o : Oper} {a : Act} {Q : Exit → Act → World → Prop}
theorem run_alloc28 (w : World) : (Instr.alloc 28 true (.tuple #[])).run Tryd.prog w = .ok (.pointer (some ⟨w.heap.size, 0, none⟩)) (w.alloc (.cells (arr 256 qZero) 28)) := by kernel_rfl
theorem wpList_alloc28 (hgd : o.guard = none) (ho : o.op = .alloc 28) (h : wpList Tryd.prog ops Q rest (a.put o.dst (.pointer (some ⟨w.heap.size, 0, none⟩))) (w.alloc (.cells (arr 256 qZero) 28))) : wpList Tryd.prog ops Q (o :: rest) a w := by
  refine wpList_value hgd (v := .pointer (some ⟨w.heap.size, 0, none⟩)) (w' := w.alloc (.cells (arr 256 qZero) 28)) ?_ h
  unfold execOp
  simp only [ho]
  simp [Sem.run_bind, run_alloc28 w]
end

set_option maxRecDepth 100000 in
set_option maxHeartbeats 4000000 in
theorem zzQ_any (a1 a2 : Addr) (base : Option Addr) (cap : Nat) (l : List UInt8) (w : World) (hG : Glob w a1 a2) (hc : l.length ≤ cap) (hm : cap ≤ 4611686018427387904) (hb : Bytes w (fun k => k < w.heap.size) base l) :
    Calls Tryd.prog 19 #[.slice base l.length cap] w (ZQPost w (qRun (l.length + 1) (fun _ _ => 0) l)) := by
  have HIN := Lib.hid (And.intro hG (And.intro hc (And.intro hm hb)))
  generalize hR : qRun (l.length + 1) (fun _ _ => 0) l = R at *
  have HR := Lib.hid hR
  obtain ⟨n, hn⟩ : ∃ n, w.heap.size = n := ⟨_, rfl⟩
  clear hG hc hm hb hR
  go_enter Tryd.func19, Tryd.ntmps19
  go_wp2_with (refine wpList_alloc28 rfl rfl ?_)
  refine (newReader _ _ _ _).mono ?_
  rintro e w1 ⟨rfl, hw1⟩
  have C1 : Chg (fun _ => False) w w1 := by rw [← hw1]; exact ((Chg.refl _ w).alloc _).alloc _
  have B1 : Blk w1 n 256 qZero := by rw [← hw1, ← hn]; exact (Blk.ofNew w _ 28 256 _ (fun k hk => arr_get _ _ _ hk)).alloc _
  have R1 : Blk w1 (n + 1) 3 (rdF (.slice base l.length cap) 0 (.int .i64 (-1))) := by
    rw [← hw1]
    have := Blk.ofNew (w.alloc (.cells (arr 256 qZero) 28)) #[.slice base l.length cap, .int .i64 0, .int .i64 (-1)] 138 3 (rdF (.slice base l.length cap) 0 (.int .i64 (-1))) (fun k hk => by
      match k, hk with
      | 0, _ => rfl
      | 1, _ => rfl
      | 2, _ => rfl)
    rwa [World.size_alloc, hn] at this
  have S1 : w1.heap.size = n + 2 := by rw [← hw1, World.size_alloc, World.size_alloc, hn]
  clear hw1
  have W2 : Src (w1.alloc (.cells (arr 9020 (f0 (n + 1))) 101)) (n + 2) (n + 1) a1 a2 (f0 (n + 1)) base cap l l := by
    refine src_new HIN.out.1 HIN.out.2.1 HIN.out.2.2.1 HIN.out.2.2.2 (C1.alloc _) (by omega) (by omega) (by omega) ?_ (R1.alloc _)
    rw [← S1]
    exact Blk.ofNew w1 _ 101 9020 _ (fun k hk => arr_get _ _ _ hk)
  have HW := Lib.hid (And.intro W2 (And.intro (B1.alloc (.cells (arr 9020 (f0 (n + 1))) 101)) (C1.alloc (.cells (arr 9020 (f0 (n + 1))) 101))))
  clear W2 B1 R1 C1
  go_wp2_with (first | (refine wpList_build rfl (.tmp 10) rfl _ rfl ?_) | (refine wpList_box rfl (.tmp 11) rfl _ rfl ?_))
  have D := dqt_any (n + 2) (n + 1) a1 a2 _ _ base cap l l HW.out.1 (by rfl) (fun c hc => f0_quant _ _ (by omega) (by omega))
  refine D.mono ?_
  rintro e w3 ⟨F, hB, hC, hT, her⟩
  obtain ⟨er, rfl, hE2⟩ : ∃ er, e = .returned er ∧ ((R.2 ≠ 1 ∧ er = .nilIface) ∨ (R.2 = 1 ∧ ∃ s, er = .iface 103 (.string s))) := by
    rw [HR.out] at her
    rcases her with ⟨h, rfl⟩ | ⟨h, s, rfl⟩
    · exact ⟨_, rfl, .inl ⟨h, rfl⟩⟩
    · exact ⟨_, rfl, .inr ⟨h, s, rfl⟩⟩
  rw [HR.out] at hT
  obtain ⟨m, hm⟩ : ∃ m, w3.heap.size = m := ⟨_, rfl⟩
  have hmn : n + 2 < m := by rw [← hm]; exact hB.lt
  have IN : Hid (Blk (w3.alloc (.cells (arr 256 qZero) 28)) m 256 (qCop R.1 0) ∧ Blk (w3.alloc (.cells (arr 256 qZero) 28)) (n + 2) 9020 F ∧ Blk (w3.alloc (.cells (arr 256 qZero) 28)) n 256 qZero ∧ Chg (fun _ => False) w (w3.alloc (.cells (arr 256 qZero) 28))) := by
    refine ⟨?_, hB.alloc _, (HW.out.2.1.chg hC (by rintro (h | h) <;> omega)).alloc _, (HW.out.2.2.transNew hC (by rintro i hi (h | h) <;> omega)).alloc _⟩
    rw [← hm]
    refine (Blk.ofNew w3 _ 28 256 _ (fun k hk => arr_get _ _ _ hk)).congr (fun k hk => ?_)
    unfold qCop
    rw [if_neg (by omega)]
    rfl
  have HT := Lib.hid hT
  have HE := Lib.hid hE2
  clear hT hE2 her hB hC D HW
  go_wp2_with (refine wpList_alloc28 rfl rfl ?_)
  obtain ⟨wo, hwo⟩ : ∃ wo : World, w3.alloc (.cells (arr 256 qZero) 28) = wo := ⟨_, rfl⟩
  rw [hwo]
  rw [hwo] at IN
  clear hwo
  go_loopg [17] 4 (fun k v wr => ∃ i : Nat, v = .int .i64 (i : Int) ∧ i + k = 4 ∧ Hid (Blk wr m 256 (qCop R.1 i) ∧ Blk wr (n + 2) 9020 F ∧ Blk wr n 256 qZero ∧ Chg (fun _ => False) w wr))
  case atStart => exact ⟨0, rfl, rfl, IN⟩
  case round =>
    clear IN
    obtain ⟨i, rfl, hik, HI⟩ := hrel
    by_cases hi : i < 4
    · have hi' : (i : Int) < 4 := by omega
      obtain ⟨Fi, hFi⟩ : ∃ Fi : Nat → Value, (fun t => F (8636 + i * 64 + t)) = Fi := ⟨_, rfl⟩
      have CF : Hid (∀ t, t < 64 → wr.cell? ⟨n + 2, 8636 + i * 64 + t, none⟩ = some (Fi t)) := fun t ht => by rw [← hFi]; exact HI.out.2.1.cell _ (by omega)
      have CS : Hid (∀ t, t < 64 → (wr.cell? ⟨m, i * 64 + t, none⟩).isSome = true) := fun t ht => by rw [HI.out.1.cell _ (by omega)]; rfl
      have FS : Hid (∀ t, t < 64 → wr.frozen? ⟨m, i * 64 + t, none⟩ = false) := fun t ht => HI.out.1.free _
      have O1 : Hid (∀ t, t < 64 → (Fi t).oneCell' = true) := fun t ht => by rw [← hFi]; show (F (8636 + i * 64 + t)).oneCell' = true; rw [show 8636 + i * 64 + t = 8636 + (i * 64 + t) by omega, HT.out _ (by omega)]; rfl
      have HF := Lib.hid hFi
      clear hFi
      go_wp2_with (first | (refine wpList_loadArr (g := n + 2) (o' := 8636 + i * 64) ?_ arrT97 (.tmp 25) ?_ ?_ Fi ?_ ?_; exact rfl; exact rfl; exact rfl; exact CF.out) | (refine wpList_storeArr (g := m) (o' := i * 64) ?_ arrT27 (.tmp 27) (.tmp 26) ?_ ?_ Fi ?_ ?_ ?_ O1.out ?_; exact rfl; exact rfl; exact rfl; exact rfl; exact CS.out; exact FS.out; simp only [Act.put]))
      have NX : Hid (Blk (wr.setCells m (i * 64) ((List.range 64).map Fi)) m 256 (qCop R.1 (i + 1)) ∧ Blk (wr.setCells m (i * 64) ((List.range 64).map Fi)) (n + 2) 9020 F ∧ Blk (wr.setCells m (i * 64) ((List.range 64).map Fi)) n 256 qZero ∧ Chg (fun _ => False) w (wr.setCells m (i * 64) ((List.range 64).map Fi))) :=
        ⟨(HI.out.1.setCells _ _ (by simp; omega)).congr (by rw [← HF.out]; exact qCop_step R.1 i F HT.out hi), HI.out.2.1.setOthers (by omega) _ _, HI.out.2.2.1.setOthers (by omega) _ _, Chg.setCells m (fun h => absurd h (by omega)) _ _ _ HI.out.2.2.2⟩
      go_roundg (gk - 1)
      case measure => omega
      case rel => exact ⟨i + 1, by go_num, by omega, NX⟩
    · obtain rfl : i = 4 := by omega
      have e4 : ∀ k, k < 256 → qCop R.1 4 k = tQ R.1 k := fun k hk => by unfold qCop; rw [if_pos (by omega)]
      have BM := Lib.hid (HI.out.1.congr e4)
      have CS : Hid (∀ t, t < 256 → (wr.cell? ⟨n, 0 + t, none⟩).isSome = true) := fun t ht => by rw [HI.out.2.2.1.cell _ (by omega)]; rfl
      have FS : Hid (∀ t, t < 256 → wr.frozen? ⟨n, 0 + t, none⟩ = false) := fun t ht => HI.out.2.2.1.free _
      have O1 : Hid (∀ t, t < 256 → (tQ R.1 t).oneCell' = true) := fun t ht => rfl
      obtain ⟨tq, htq⟩ : ∃ tq, tQ R.1 = tq := ⟨_, rfl⟩
      rw [htq] at BM O1
      go_wp2_with (first | (refine wpList_loadBlk (g := m) ?_ arrT28 (.tmp 6) ?_ ?_ (f := tq) ?_ ?_; exact rfl; exact rfl; exact rfl; exact BM.out) | (refine wpList_storeArr (g := n) (o' := 0) ?_ arrT28 (.tmp 2) (.tmp 29) ?_ ?_ tq ?_ ?_ ?_ O1.out ?_; exact rfl; exact rfl; exact rfl; exact rfl; exact CS.out; exact FS.out; simp only [Act.put]))
      have FB : Blk (wr.setCells n 0 ((List.range 256).map (tq))) n 256 (tq) := (HI.out.2.2.1.setCells 0 _ (by simp)).congr (fun k hk => by
        have := updRow_in qZero 0 ((List.range 256).map (tq)) k (by simp; omega)
        rw [Nat.zero_add] at this
        rw [this]
        simp)
      refine bodyPost_ret (results_arr2 rfl arrT28 rfl (tq) (fun k hk => FB.cell k hk)) rfl ?_
      exact ⟨Chg.setCells n (fun h => absurd h (by omega)) _ _ _ HI.out.2.2.2, er, by rw [← htq]; rfl, HE.out⟩
end Go.Proofs.YtkkplbfbhmlnoaaDoor
