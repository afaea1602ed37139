/- spec.QuantizationTables: what it returns. Conditions: the argument is a slice of bytes. -/
import Derived.Test.YtkkplbfbhmlnoaaDoorQa
import Derived.Test.YtkkplbfbhmlnoaaDoorRa
import Derived.Deep.LoopGhost
import Derived.BigGuardPart
namespace Go.Proofs.YtkkplbfbhmlnoaaDoor
open Go.RowKit

theorem arrT24 : ArrT Tryd.prog 24 256 := ⟨fun w => by kernel_rfl, fun w => by kernel_rfl⟩

/-- The cells of spec's tables. -/
def tF (T : Nat → Nat → Nat) : Nat → Value := fun c => .int .i64 ((T (c / 64) (c % 64) : Nat) : Int)
def tZero : Nat → Value := fun _ => .int .i64 0
theorem tF_zero : tF (fun _ _ => 0) = tZero := rfl

/-- A slice of bytes, as the walk meets it. -/
def Sl (w : World) (B : Nat) (v : Value) (l : List UInt8) : Prop := ∃ base cap, v = .slice base l.length cap ∧ l.length ≤ cap ∧ cap ≤ 9223372036854775807 ∧ Bytes w (fun k => k < B) base l

/-- At the head of spec's outer loop. -/
def QRel (w : World) (R : (Nat → Nat → Nat) × Nat) (gk : Nat) (v : Value) (wr : World) : Prop :=
  ∃ T l, Sl wr w.heap.size v l ∧ l.length < gk ∧ qRun gk T l = R ∧ Blk wr w.heap.size 256 (tF T) ∧ Chg (fun _ => False) w wr

def QPost (w : World) (R : (Nat → Nat → Nat) × Nat) (e : Ending) (w' : World) : Prop :=
  e = .returned (.tuple #[.agg (arr 256 (tF R.1)), .bool (decide (R.2 = 0)), .bool (decide (R.2 = 2))]) ∧ Chg (fun _ => False) w w'

/-- The tables with k places of one laid. -/
def qPart (T : Nat → Nat → Nat) (x : UInt8) (xs : List UInt8) (k : Nat) : Nat → Nat → Nat := fun i j => if i = x.toNat % 16 ∧ j < k then qSet T x xs i j else T i j
theorem qPart_zero (T : Nat → Nat → Nat) (x : UInt8) (xs : List UInt8) : qPart T x xs 0 = T := by
  funext i j; unfold qPart; rw [if_neg (by omega)]
theorem qPart_all (T : Nat → Nat → Nat) (x : UInt8) (xs : List UInt8) : tF (qPart T x xs 64) = tF (qSet T x xs) := by
  funext c
  unfold tF qPart
  split
  · rfl
  · rename_i h
    unfold qSet
    rw [if_neg (by omega)]
theorem qPart_step (T : Nat → Nat → Nat) (x : UInt8) (xs : List UInt8) (k : Nat) (hk : k < 64) : upd (tF (qPart T x xs k)) (x.toNat % 16 * 64 + k) (.int .i64 ((qSet T x xs (x.toNat % 16) k : Nat) : Int)) = tF (qPart T x xs (k + 1)) := by
  funext c
  unfold upd
  split
  · rename_i h
    subst h
    unfold tF qPart
    rw [show (x.toNat % 16 * 64 + k) / 64 = x.toNat % 16 by omega, show (x.toNat % 16 * 64 + k) % 64 = k by omega, if_pos ⟨rfl, by omega⟩]
  · rename_i h
    unfold tF qPart
    by_cases h1 : c / 64 = x.toNat % 16 ∧ c % 64 < k
    · rw [if_pos h1, if_pos ⟨h1.1, by omega⟩]
    · rw [if_neg h1, if_neg (by omega)]

theorem qrel_mk {w wr : World} {R : (Nat → Nat → Nat) × Nat} {T : Nat → Nat → Nat} {x : UInt8} {xs : List UInt8} {kk m : Nat} (d : Nat) (hd : d = 64 * (x.toNat / 16 + 1)) (hdm : d ≤ m)
    (hQ : qRun kk (qSet T x xs) (xs.drop (64 * (x.toNat / 16 + 1))) = R ∧ xs.length = m ∧ (x :: xs).length < kk + 1) (base2 : Option Addr) (len2 cap2 : Nat) (h1 : len2 = m - d) (h2 : len2 ≤ cap2) (h3 : cap2 ≤ 9223372036854775807)
    (hb : len2 = 0 ∨ ∃ g o, base2 = some ⟨g, o, none⟩ ∧ g < w.heap.size ∧ ∀ j, j < len2 → w.cell? ⟨g, o + j, none⟩ = some (.int .u8 ((xs.getD (d + j) 0).toNat : Int)))
    (H : Hid (Blk wr w.heap.size 256 (tF (qPart T x xs 64)) ∧ Chg (fun _ => False) w wr)) : QRel w R kk (.slice base2 len2 cap2) wr := by
  obtain ⟨hR, hl, hlt⟩ := hQ
  have hlen : (xs.drop d).length = len2 := by rw [List.length_drop, hl, h1]
  refine ⟨qSet T x xs, xs.drop d, ⟨base2, cap2, by rw [hlen], by rw [hlen]; exact h2, h3, ?_⟩, by rw [hlen]; simp at hlt; omega, by rw [hd]; exact hR, by rw [← qPart_all]; exact H.1, H.2⟩
  rcases hb with h0 | ⟨g, o, rfl, hg, hc⟩
  · exact .inl (List.eq_nil_of_length_eq_zero (by rw [hlen]; exact h0))
  · refine .inr ⟨g, o, rfl, hg, Nat.lt_of_lt_of_le hg H.2.size, fun k hk => ?_⟩
    rw [H.2.cell (p := ⟨g, o + k, none⟩) hg (fun h => h), hc k (by omega), List.getD_eq_getElem?_getD, ← List.getElem?_drop, List.getElem?_eq_getElem hk]
    rfl

theorem specQ_ill {w W : World} {R : (Nat → Nat → Nat) × Nat} {T : Nat → Nat → Nat} {c : Nat} (hR : R = (T, c)) (hc : c ≠ 0) (hC : Chg (fun _ => False) w W) {l : Bool} (hl : l = decide (c = 2)) :
    QPost w R (.returned (.tuple #[.agg (arr 256 (tF T)), .bool false, .bool l])) W := by
  subst hR hl
  refine ⟨?_, hC⟩
  have : decide (c = 0) = false := by simpa using hc
  simp [this]

set_option maxRecDepth 100000 in
set_option maxHeartbeats 4000000 in
theorem specQ_any (base : Option Addr) (cap : Nat) (l : List UInt8) (w : World) (hc : l.length ≤ cap) (hm : cap ≤ 9223372036854775807) (hb : Bytes w (fun k => k < w.heap.size) base l) :
    Calls Tryd.prog 8 #[.slice base l.length cap] w (QPost w (qRun (l.length + 1) (fun _ _ => 0) l)) := by
  have START : Hid (QRel w (qRun (l.length + 1) (fun _ _ => 0) l) (l.length + 1) (.slice base l.length cap) (w.alloc (.cells (arr 256 tZero) 24))) :=
    ⟨fun _ _ => 0, l, ⟨base, cap, rfl, hc, hm, hb.chg ((Chg.refl (fun _ => False) w).alloc _) (fun _ _ h => h)⟩, by omega, rfl, Blk.ofNew w _ 24 256 _ (fun k hk => arr_get _ _ _ hk), (Chg.refl _ w).alloc _⟩
  generalize qRun (l.length + 1) (fun _ _ => 0) l = R at *
  go_enter Tryd.func8, Tryd.ntmps8
  go_step
  go_step
  refine wpList_at (.pointer (some ⟨w.heap.size, 0, none⟩)) (w.alloc (.cells (arr 256 tZero) 24)) rfl (by kernel_rfl) ?_
  go_wp2_with fail
  go_loopg [0] (l.length + 1) (fun k v wr => QRel w R k v wr)
  case atStart => exact START.out
  case round =>
    clear START
    obtain ⟨T, l', ⟨bb, cc, rfl, hcc, hmm, hbb⟩, hlt, hR, hB, hC⟩ := hrel
    cases l' with
    | nil =>
      have HB := Lib.hid hB
      have FIN : Hid (QPost w R (.returned (.tuple #[.agg (arr 256 (tF T)), .bool true, .bool false])) wr) := by
        obtain ⟨kk, rfl⟩ : ∃ kk, gk = kk + 1 := ⟨gk - 1, by omega⟩
        rw [← hR]
        exact ⟨rfl, hC⟩
      have hl0 : ([] : List UInt8).length = 0 := rfl
      rw [hl0]
      clear hbb hlt hR hB hC hcc hmm hl0
      go_wp2_with (first | (refine wpList_loadBlk rfl arrT24 (.tmp 2) rfl rfl HB.out ?_) | (refine wpList_storeBack rfl arrT24 (.tmp 2) (.tmp 86) rfl rfl rfl HB.out (fun _ _ => rfl) ?_))
      refine bodyPost_ret (results_arr3 rfl arrT24 rfl (tF T) (fun k hk => HB.out.cell k hk)) rfl ?_
      exact FIN.out
    | cons x xs =>
      rcases hbb with h0 | ⟨g, o, rfl, hgw, hgl, hcell⟩
      · cases h0
      have c0 : wr.cell? ⟨g, o, none⟩ = some (.int .u8 (x.toNat : Int)) := hcell 0 (by simp)
      have hx : x.toNat < 256 := x.toNat_lt
      obtain ⟨m, hm⟩ : ∃ m, xs.length = m := ⟨_, rfl⟩
      have hlen : (x :: xs).length = m + 1 := by simp [hm]
      rw [hlen]
      rw [hlen] at hcc
      have HA := Lib.hid (And.intro hcell (And.intro hR (And.intro hB (And.intro hC (And.intro hm hlen)))))
      clear hcell hR hB hC hm hlen
      obtain ⟨kk, rfl⟩ : ∃ kk, gk = kk + 1 := ⟨gk - 1, by omega⟩
      by_cases h1 : 1 < x.toNat / 16
      · have h1' : 2 < (x.toNat : Int) / 16 + 1 := by omega
        have FIN : Hid (QPost w R (.returned (.tuple #[.agg (arr 256 (tF T)), .bool false, .bool false])) wr.drew) :=
          specQ_ill (c := 1) (by rw [← HA.out.2.1]; exact qRun_bad kk T x xs (.inl h1)) (by decide) HA.out.2.2.2.1.drew rfl
        have d1 : decide ((x.toNat : Int) / 16 + 1 ≤ 2) = false := by simp; omega
        go_wp2_with fail
        refine wp_region_tail 17 (by kernel_rfl) (by kernel_rfl) ?_
        simp only [List.take_succ_cons, List.take_zero, List.drop_succ_cons, List.drop_zero]
        refine quiet_value rfl (run_loadArrOp arrT24 (.tmp 2) rfl rfl (tF T) (fun k hk => by rw [Nat.zero_add]; exact HA.out.2.2.1.cell k hk)) ?_
        simp only [Act.put, List.setIfInBounds_toArray, List.set]
        repeat (go_big_quiet_step (fail))
        refine quiet_skip rfl (run_storeBack arrT24 (.tmp 2) (.tmp 34) rfl rfl rfl HA.out.2.2.1.drew (fun _ _ => rfl)) ?_
        simp only [Act.put]
        repeat (go_big_quiet_step (fail))
        refine wpQuiet_nil ?_
        go_wp2_with fail
        refine bodyPost_ret (results_arr3 rfl arrT24 rfl (tF T) (fun k hk => HA.out.2.2.1.cell k hk)) rfl ?_
        exact FIN.out
      have h1' : (x.toNat : Int) / 16 + 1 ≤ 2 := by omega
      have d1 : decide ((x.toNat : Int) / 16 + 1 ≤ 2) = true := by simp; omega
      by_cases h2 : 3 < x.toNat % 16
      · have h2' : 3 < (x.toNat : Int) % 16 := by omega
        have FIN : Hid (QPost w R (.returned (.tuple #[.agg (arr 256 (tF T)), .bool false, .bool false])) wr.drew) :=
          specQ_ill (c := 1) (by rw [← HA.out.2.1]; exact qRun_bad kk T x xs (.inr h2)) (by decide) HA.out.2.2.2.1.drew rfl
        have d2 : decide ((x.toNat : Int) % 16 ≤ 3) = false := by simp; omega
        go_wp2_with fail
        refine wp_region_tail 17 (by kernel_rfl) (by kernel_rfl) ?_
        simp only [List.take_succ_cons, List.take_zero, List.drop_succ_cons, List.drop_zero]
        refine quiet_value rfl (run_loadArrOp arrT24 (.tmp 2) rfl rfl (tF T) (fun k hk => by rw [Nat.zero_add]; exact HA.out.2.2.1.cell k hk)) ?_
        simp only [Act.put, List.setIfInBounds_toArray, List.set]
        repeat (go_big_quiet_step (fail))
        refine quiet_skip rfl (run_storeBack arrT24 (.tmp 2) (.tmp 34) rfl rfl rfl HA.out.2.2.1.drew (fun _ _ => rfl)) ?_
        simp only [Act.put]
        repeat (go_big_quiet_step (fail))
        refine wpQuiet_nil ?_
        go_wp2_with fail
        refine bodyPost_ret (results_arr3 rfl arrT24 rfl (tF T) (fun k hk => HA.out.2.2.1.cell k hk)) rfl ?_
        exact FIN.out
      have h2' : (x.toNat : Int) % 16 ≤ 3 := by omega
      have d2 : decide ((x.toNat : Int) % 16 ≤ 3) = true := by simp; omega
      by_cases h3 : m < 64 * (x.toNat / 16 + 1)
      · by_cases h4 : m = 0
        · have FIN : Hid (QPost w R (.returned (.tuple #[.agg (arr 256 (tF T)), .bool false, .bool true])) wr.drew) :=
            specQ_ill (c := 2) (by rw [← HA.out.2.1]; have := qRun_short kk T x xs (by omega) (by omega) (by have := HA.out.2.2.2.2.1; omega); rw [HA.out.2.2.2.2.1, if_pos h4] at this; exact this) (by decide) HA.out.2.2.2.1.drew rfl
          have h3' : (m : Int) + 1 < 1 + 64 * ((x.toNat : Int) / 16 + 1) := by omega
          have d3 : ((m : Int) + 1 == 1) = true := by simp; omega
          go_wp2_with fail
          refine wp_region_tail 17 (by kernel_rfl) (by kernel_rfl) ?_
          simp only [List.take_succ_cons, List.take_zero, List.drop_succ_cons, List.drop_zero]
          refine quiet_value rfl (run_loadArrOp arrT24 (.tmp 2) rfl rfl (tF T) (fun k hk => by rw [Nat.zero_add]; exact HA.out.2.2.1.cell k hk)) ?_
          simp only [Act.put, List.setIfInBounds_toArray, List.set]
          repeat (go_big_quiet_step (fail))
          refine quiet_skip rfl (run_storeBack arrT24 (.tmp 2) (.tmp 34) rfl rfl rfl HA.out.2.2.1.drew (fun _ _ => rfl)) ?_
          simp only [Act.put]
          repeat (go_big_quiet_step (fail))
          refine wpQuiet_nil ?_
          go_wp2_with fail
          refine bodyPost_ret (results_arr3 rfl arrT24 rfl (tF T) (fun k hk => HA.out.2.2.1.cell k hk)) rfl ?_
          exact FIN.out
        · have FIN : Hid (QPost w R (.returned (.tuple #[.agg (arr 256 (tF T)), .bool false, .bool false])) wr.drew) :=
            specQ_ill (c := 1) (by rw [← HA.out.2.1]; have := qRun_short kk T x xs (by omega) (by omega) (by have := HA.out.2.2.2.2.1; omega); rw [HA.out.2.2.2.2.1, if_neg h4] at this; exact this) (by decide) HA.out.2.2.2.1.drew rfl
          have h3' : (m : Int) + 1 < 1 + 64 * ((x.toNat : Int) / 16 + 1) := by omega
          have d3 : ((m : Int) + 1 == 1) = false := by simp; omega
          have h1d : ¬ (2 < (x.toNat : Int) / 16 + 1) := by omega
          have h2d : ¬ (3 < (x.toNat : Int) % 16) := by omega
          clear h1 h2 h3 h4
          go_wp2_with fail
          refine wp_region_tail 17 (by kernel_rfl) (by kernel_rfl) ?_
          simp only [List.take_succ_cons, List.take_zero, List.drop_succ_cons, List.drop_zero]
          refine quiet_value rfl (run_loadArrOp arrT24 (.tmp 2) rfl rfl (tF T) (fun k hk => by rw [Nat.zero_add]; exact HA.out.2.2.1.cell k hk)) ?_
          simp only [Act.put, List.setIfInBounds_toArray, List.set]
          repeat (go_big_quiet_step (fail))
          refine quiet_skip rfl (run_storeBack arrT24 (.tmp 2) (.tmp 34) rfl rfl rfl HA.out.2.2.1.drew (fun _ _ => rfl)) ?_
          simp only [Act.put]
          repeat (go_big_quiet_step (fail))
          refine wpQuiet_nil ?_
          go_wp2_with fail
          refine bodyPost_ret (results_arr3 rfl arrT24 rfl (tF T) (fun k hk => HA.out.2.2.1.cell k hk)) rfl ?_
          exact FIN.out
      have HD : Hid (∀ k (h : k < (x :: xs).length), w.cell? ⟨g, o + k, none⟩ = some (.int .u8 ((x :: xs)[k].toNat : Int))) := fun k h => by
        rw [← HA.out.2.2.2.1.cell (p := ⟨g, o + k, none⟩) hgw (fun h => h)]; exact HA.out.1 k h
      have HX : Hid (∀ j (_ : j < m), w.cell? ⟨g, o + (1 + j), none⟩ = some (.int .u8 ((xs.getD j 0).toNat : Int))) := fun j hj => by
        have hlen := HA.out.2.2.2.2.2
        rw [HD.out (1 + j) (by omega)]
        have e : (x :: xs)[1 + j]'(by omega) = xs.getD j 0 := by
          rw [List.getD_eq_getElem?_getD, List.getElem?_eq_getElem (by have := HA.out.2.2.2.2.1; omega)]
          simp only [Nat.add_comm 1 j, List.getElem_cons_succ, Option.getD_some]
        rw [e]
      have H0 : Hid (w.cell? ⟨g, o, none⟩ = some (.int .u8 (x.toNat : Int))) := HD.out 0 (by simp)
      have HQ : Hid (qRun kk (qSet T x xs) (xs.drop (64 * (x.toNat / 16 + 1))) = R ∧ xs.length = m ∧ (x :: xs).length < kk + 1) :=
        ⟨by rw [← HA.out.2.1]; exact (qRun_next kk T x xs (by omega) (by omega) (by have := HA.out.2.2.2.2.1; omega)).symm, HA.out.2.2.2.2.1, hlt⟩
      by_cases hA : x.toNat / 16 = 0
      · have hA' : (x.toNat : Int) / 16 = 0 := by omega
        have hAq := Lib.hid hA
        have h1d : ¬ (2 < (1 : Int)) := by omega
        have h2d : ¬ (3 < (x.toNat : Int) % 16) := by omega
        have hm64 : 64 ≤ m := by omega
        have hm64' : 65 ≤ (m : Int) + 1 := by omega
        have h3d : decide ((m : Int) + 1 < 65) = false := by simp; omega
        have IN : Hid (Blk wr w.heap.size 256 (tF (qPart T x xs 0)) ∧ Chg (fun _ => False) w wr) := by rw [qPart_zero]; exact ⟨HA.out.2.2.1, HA.out.2.2.2.1⟩
        clear h1' d1 d2 h1 h2 h2' h3 hA HA hlt
        go_wp2_with fail
        obtain ⟨wo, rfl⟩ : ∃ wo : World, wo = wr := ⟨_, rfl⟩
        go_loopg [49] 64 (fun k v wr' => ∃ j : Nat, v = .int .i64 (j : Int) ∧ j + k = 64 ∧ Hid (Blk wr' w.heap.size 256 (tF (qPart T x xs j)) ∧ Chg (fun _ => False) w wr'))
        case atStart => exact ⟨0, rfl, rfl, IN.out⟩
        case round =>
          clear IN c0
          obtain ⟨j, rfl, hjk, HB⟩ := hrel
          by_cases hj : j < 64
          · have hj' : (j : Int) < 64 := by omega
            have c0 : wr.cell? ⟨g, o, none⟩ = some (.int .u8 (x.toNat : Int)) := HB.out.2.some H0.out (fun h => h)
            obtain ⟨v, hv, hvb⟩ : ∃ v : Nat, qSet T x xs (x.toNat % 16) j = v ∧ wr.cell? ⟨g, o + (1 + j), none⟩ = some (.int .u8 (v : Int)) :=
              ⟨(xs.getD j 0).toNat, by unfold qSet; rw [if_pos rfl, if_pos hAq.out], HB.out.2.some (HX.out j (by omega)) (fun h => h)⟩
            have hv256 : v < 256 := by
              have : v = (xs.getD j 0).toNat := by rw [← hv]; unfold qSet; rw [if_pos rfl, if_pos hAq.out]
              rw [this]; exact (xs.getD j 0).toNat_lt
            have hvi : (v : Int) < 256 := by omega
            have HV := Lib.hid hv
            clear hv
            have ct : wr.cell? ⟨w.heap.size, x.toNat % 16 * 64 + j, none⟩ = some (tF (qPart T x xs j) (x.toNat % 16 * 64 + j)) := HB.out.1.cell _ (by omega)
            have ft := HB.out.1.free (x.toNat % 16 * 64 + j)
            go_wp2_with fail
            have IN : Hid (Blk (wr.setCell ⟨w.heap.size, x.toNat % 16 * 64 + j, none⟩ (.int .i64 (v : Int))) w.heap.size 256 (tF (qPart T x xs (j + 1))) ∧ Chg (fun _ => False) w (wr.setCell ⟨w.heap.size, x.toNat % 16 * 64 + j, none⟩ (.int .i64 (v : Int)))) := by
              have hb2 := HB.out.1.setCell (k := x.toNat % 16 * 64 + j) (by omega) (.int .i64 (v : Int))
              rw [← HV.out, qPart_step T x xs j hj] at hb2
              rw [← HV.out]
              exact ⟨hb2, HB.out.2.setCell (p := ⟨w.heap.size, x.toNat % 16 * 64 + j, none⟩) (fun h => absurd h (Nat.lt_irrefl _)) _⟩
            go_roundg (gk - 1)
            case measure => omega
            case rel => exact ⟨j + 1, by go_num, by omega, IN.out⟩
          · obtain rfl : j = 64 := by omega
            clear hj
            by_cases h65 : cc = 65
            · obtain rfl : m = 64 := by omega
              have h65' : (65 : Nat) = cc := h65.symm
              subst h65'
              go_wp2_with fail
              go_roundg kk
              case measure => omega
              case rel => exact qrel_mk 64 (by rw [hAq.out]) (by omega) HQ.out _ 0 0 rfl (by omega) (by omega) (.inl rfl) HB
            · go_wp2_with fail
              go_roundg kk
              case measure => omega
              case rel => exact qrel_mk 64 (by rw [hAq.out]) (by omega) HQ.out _ (m - 64) (cc - 65) rfl (by omega) (by omega) (.inr ⟨g, o + 65, rfl, hgw, fun j hj => by rw [show o + 65 + j = o + (1 + (64 + j)) by omega]; exact HX.out (64 + j) (by omega)⟩) HB
      · have hA1 : x.toNat / 16 = 1 := by omega
        have hA' : (x.toNat : Int) / 16 = 1 := by omega
        have hAq := Lib.hid hA1
        have h2d : ¬ (3 < (x.toNat : Int) % 16) := by omega
        have hm64 : 128 ≤ m := by omega
        have hm64' : 129 ≤ (m : Int) + 1 := by omega
        have h3d : decide ((m : Int) + 1 < 129) = false := by simp; omega
        have IN : Hid (Blk wr w.heap.size 256 (tF (qPart T x xs 0)) ∧ Chg (fun _ => False) w wr) := by rw [qPart_zero]; exact ⟨HA.out.2.2.1, HA.out.2.2.2.1⟩
        clear h1' d1 d2 h1 h2 h2' h3 hA HA hlt hA1
        go_wp2_with fail
        obtain ⟨wo, rfl⟩ : ∃ wo : World, wo = wr := ⟨_, rfl⟩
        go_loopg [49] 64 (fun k v wr' => ∃ j : Nat, v = .int .i64 (j : Int) ∧ j + k = 64 ∧ Hid (Blk wr' w.heap.size 256 (tF (qPart T x xs j)) ∧ Chg (fun _ => False) w wr'))
        case atStart => exact ⟨0, rfl, rfl, IN.out⟩
        case round =>
          clear IN c0
          obtain ⟨j, rfl, hjk, HB⟩ := hrel
          by_cases hj : j < 64
          · have hj' : (j : Int) < 64 := by omega
            have c0 : wr.cell? ⟨g, o, none⟩ = some (.int .u8 (x.toNat : Int)) := HB.out.2.some H0.out (fun h => h)
            obtain ⟨v, u, hv, hva, hub, hv6, hu6⟩ : ∃ v u : Nat, qSet T x xs (x.toNat % 16) j = v * 256 + u ∧ wr.cell? ⟨g, o + (1 + j * 2), none⟩ = some (.int .u8 (v : Int)) ∧ wr.cell? ⟨g, o + (2 + 2 * j), none⟩ = some (.int .u8 (u : Int)) ∧ v < 256 ∧ u < 256 :=
              ⟨(xs.getD (2 * j) 0).toNat, (xs.getD (2 * j + 1) 0).toNat, by unfold qSet; rw [if_pos rfl, if_neg (by rw [hAq.out]; decide)],
                by have := HB.out.2.some (HX.out (2 * j) (by omega)) (fun h => h); rwa [show o + (1 + 2 * j) = o + (1 + j * 2) by omega] at this,
                by have := HB.out.2.some (HX.out (2 * j + 1) (by omega)) (fun h => h); rwa [show o + (1 + (2 * j + 1)) = o + (2 + 2 * j) by omega] at this,
                (xs.getD (2 * j) 0).toNat_lt, (xs.getD (2 * j + 1) 0).toNat_lt⟩
            have hvi : (v : Int) < 256 := by omega
            have hui : (u : Int) < 256 := by omega
            have hor := or64_byte v u hv6 hu6
            have HV := Lib.hid hv
            clear hv
            have ct : wr.cell? ⟨w.heap.size, x.toNat % 16 * 64 + j, none⟩ = some (tF (qPart T x xs j) (x.toNat % 16 * 64 + j)) := HB.out.1.cell _ (by omega)
            have ft := HB.out.1.free (x.toNat % 16 * 64 + j)
            go_wp2_with fail
            have IN : Hid (Blk (wr.setCell ⟨w.heap.size, x.toNat % 16 * 64 + j, none⟩ (.int .i64 ((v : Int) * 256 + (u : Int)))) w.heap.size 256 (tF (qPart T x xs (j + 1))) ∧ Chg (fun _ => False) w (wr.setCell ⟨w.heap.size, x.toNat % 16 * 64 + j, none⟩ (.int .i64 ((v : Int) * 256 + (u : Int))))) := by
              have hb2 := HB.out.1.setCell (k := x.toNat % 16 * 64 + j) (by omega) (.int .i64 ((qSet T x xs (x.toNat % 16) j : Nat) : Int))
              rw [qPart_step T x xs j hj] at hb2
              have e : (v : Int) * 256 + (u : Int) = ((qSet T x xs (x.toNat % 16) j : Nat) : Int) := by rw [HV.out]; omega
              rw [e]
              exact ⟨hb2, HB.out.2.setCell (p := ⟨w.heap.size, x.toNat % 16 * 64 + j, none⟩) (fun h => absurd h (Nat.lt_irrefl _)) _⟩
            go_roundg (gk - 1)
            case measure => omega
            case rel => exact ⟨j + 1, by go_num, by omega, IN.out⟩
          · obtain rfl : j = 64 := by omega
            clear hj
            by_cases h65 : cc = 129
            · obtain rfl : m = 128 := by omega
              have h65' : (129 : Nat) = cc := h65.symm
              subst h65'
              go_wp2_with fail
              go_roundg kk
              case measure => omega
              case rel => exact qrel_mk 128 (by rw [hAq.out]) (by omega) HQ.out _ 0 0 rfl (by omega) (by omega) (.inl rfl) HB
            · go_wp2_with fail
              go_roundg kk
              case measure => omega
              case rel => exact qrel_mk 128 (by rw [hAq.out]) (by omega) HQ.out _ (m - 128) (cc - 129) rfl (by omega) (by omega) (.inr ⟨g, o + 129, rfl, hgw, fun j hj => by rw [show o + 129 + j = o + (1 + (128 + j)) by omega]; exact HX.out (128 + j) (by omega)⟩) HB
end Go.Proofs.YtkkplbfbhmlnoaaDoor
