/- (*decoder).fill behind more than two bytes: the last two are moved to the buffer's start. Conditions: those of Src0. -/
import Derived.Test.YtkkplbfbhmlnoaaDoorRc
namespace Go.Proofs.YtkkplbfbhmlnoaaDoor
open Go.RowKit

/-- In the middle of a method: the decoder's block holds F, the reader's g. -/
structure Mid (w : World) (b r : Nat) (g F : Nat → Value) (W : World) : Prop where
  blk : Blk W b 9020 F
  rb : Blk W r 3 g
  chg : Chg (BR b r) w W
theorem Mid.drewN {w : World} {b r : Nat} {g F : Nat → Value} {W : World} (h : Mid w b r g F W) (n : Nat) : Mid w b r g F (W.drewN n) := ⟨h.blk.drewN n, h.rb.drewN n, h.chg.drewN n⟩
theorem Mid.drew {w : World} {b r : Nat} {g F : Nat → Value} {W : World} (h : Mid w b r g F W) : Mid w b r g F W.drew := h.drewN 1
theorem Mid.set {w : World} {b r : Nat} {g F : Nat → Value} {W : World} (h : Mid w b r g F W) (hne : r ≠ b) {k : Nat} (hk : k < 9020) (v : Value) : Mid w b r g (upd F k v) (W.setCell ⟨b, k, none⟩ v) :=
  ⟨h.blk.setCell hk v, h.rb.setOther (p := ⟨b, k, none⟩) (fun e => hne e.symm) v, h.chg.setCell (p := ⟨b, k, none⟩) (fun _ => .inl rfl) v⟩

/-- The way to the call of Read behind more than two bytes, for both ends. -/
theorem fill_moved (b r : Nat) (a1 a2 : Addr) (w W : World) (f : Nat → Value) (base : Option Addr) (cap : Nat) (data : List UInt8) (j p : Nat) (bs : Nat → UInt8) (q : Value) (h : Src0 w b r a1 a2 f base cap data j j p bs)
    (M : Mid w b r (rdF (.slice base data.length cap) p q) (fMove f bs j) W) : Src0 W b r a1 a2 (fMove f bs j) base cap data 2 2 p (bsMove bs j) where
  glob := h.glob.chg M.chg (fun k hk e => by have := h.b3; have := h.r3; rcases e with e | e <;> omega)
  blk := M.blk
  b3 := h.b3
  r3 := h.r3
  ne := h.ne
  rd := by unfold fMove; rw [upd_ne _ _ _ _ (by decide), upd_ne _ _ _ _ (by decide), upd_ne _ _ _ _ (by decide), upd_ne _ _ _ _ (by decide), h.rd]
  hi := by unfold fMove; rw [upd_ne _ _ _ _ (by decide), upd_same]; rfl
  hj := by unfold fMove; rw [upd_same]; rfl
  ij := by omega
  j4 := by omega
  buf := fun k hk => by
    unfold fMove bsMove
    rw [upd_ne _ _ _ _ (by omega), upd_ne _ _ _ _ (by omega)]
    by_cases e0 : k = 0
    · subst e0; rw [upd_ne _ _ _ _ (by decide), upd_same]; rfl
    · by_cases e1 : k = 1
      · subst e1; rw [upd_same]; rfl
      · rw [upd_ne _ _ _ _ (by omega), upd_ne _ _ _ _ (by omega), h.buf k hk, if_neg e0, if_neg e1]
  rb := ⟨q, M.rb⟩
  hp := h.hp
  hcap := h.hcap
  hmax := h.hmax
  dat := (h.dat.chg M.chg (fun k hk e => by rcases e with e | e; exact hk.1 e; exact hk.2 e))

theorem FillPost.moved {w W : World} {b r : Nat} {a1 a2 : Addr} {f : Nat → Value} {base : Option Addr} {cap : Nat} {data : List UInt8} {j p : Nat} {bs : Nat → UInt8} {e : Ending} {w' : World} (hC : Chg (BR b r) w W)
    (h : FillPost W b r a1 a2 (fMove f bs j) base cap data p e w') : FillPost w b r a1 a2 f base cap data p e w' := by
  obtain ⟨f', i', j', p', bs', S, hb, hf, C, hr⟩ := h
  exact ⟨f', i', j', p', bs', S, hb, fun k hk => by rw [hf k hk, fMove_out _ _ _ _ hk], hC.trans C, hr⟩

set_option maxRecDepth 100000 in
set_option maxHeartbeats 2000000 in
theorem fill_some2 (b r : Nat) (a1 a2 : Addr) (w : World) (f : Nat → Value) (base : Option Addr) (cap : Nat) (data : List UInt8) (j p : Nat) (bs : Nat → UInt8) (h : Src0 w b r a1 a2 f base cap data j j p bs) (h2 : 2 < j) (hp : p < data.length) :
    Calls Tryd.prog 51 #[.pointer (some ⟨b, 0, none⟩)] w (FillPost w b r a1 a2 f base cap data p) := by
  have H := Lib.hid h
  obtain ⟨q, rb⟩ := h.rb
  have M0 : Hid (Mid w b r (rdF (.slice base data.length cap) p q) f w) := ⟨h.blk, rb, Chg.refl _ w⟩
  have hne := Lib.hid h.ne
  have hj4 := h.j4
  have ci := h.blk.at 4100 (by decide) h.hi
  have cj := h.blk.at 4101 (by decide) h.hj
  have x2 := h.blk.at (4 + (j - 2)) (by omega) (h.buf (j - 2) (by omega))
  have c4 := h.blk.at 4 (by decide) (h.buf 0 (by omega))
  have f4 := h.blk.free 4
  have h2' : 2 < (j : Int) := by omega
  have h4' : (j : Int) ≤ 4096 := by omega
  have e2 : 0 ≤ (j : Int) - 2 := by omega
  have e2' : (j : Int) - 2 < 4096 := by omega
  have e1 : 0 ≤ (j : Int) - 1 := by omega
  have e1' : (j : Int) - 1 < 4096 := by omega
  clear h rb
  go_enter Tryd.func51, Tryd.ntmps51
  go_wp2_with fail
  go_quiet (fail)
  go_wp2_with fail
  refine wp_region_tail 17 (by kernel_rfl) (by kernel_rfl) ?_
  simp only [List.take_succ_cons, List.take_zero, List.drop_succ_cons, List.drop_zero]
  repeat (go_big_quiet_step (fail))
  refine wpQuiet_nil ?_
  go_wp2_with fail
  refine cutW (Mid w b r (rdF (.slice base data.length cap) p q) (upd f 4 (.int .u8 ((bs (j - 2)).toNat : Int)))) ((M0.out.drewN _).set hne.out (by decide) _) ?_
  clear M0 ci cj x2 c4 f4
  intro W M1
  have M0 := Lib.hid M1
  have cj := M1.blk.at 4101 (by decide) (v := .int .i64 j) (by rw [upd_ne _ _ _ _ (by decide)]; exact H.out.hj)
  have x1 := M1.blk.at (4 + (j - 1)) (by omega) (v := .int .u8 ((bs (j - 1)).toNat : Int)) (by rw [upd_ne _ _ _ _ (by omega)]; exact H.out.buf _ (by omega))
  have c5 := M1.blk.at 5 (by decide) (v := .int .u8 ((bs 1).toNat : Int)) (by rw [upd_ne _ _ _ _ (by decide)]; exact H.out.buf 1 (by omega))
  have ci := M1.blk.at 4100 (by decide) (v := .int .i64 j) (by rw [upd_ne _ _ _ _ (by decide)]; exact H.out.hi)
  have f5 := M1.blk.free 5
  have fi := M1.blk.free 4100
  have fj := M1.blk.free 4101
  clear M1
  refine wp_region_tail 17 (by kernel_rfl) (by kernel_rfl) ?_
  simp only [List.take_succ_cons, List.take_zero, List.drop_succ_cons, List.drop_zero]
  repeat (go_big_quiet_step (fail))
  refine wpQuiet_nil ?_
  go_wp2_with fail
  refine cutW (Mid w b r (rdF (.slice base data.length cap) p q) (fMove f bs j)) (by repeat' (first | exact M0.out | refine Mid.drewN ?_ _ | refine Mid.drew ?_ | refine Mid.set ?_ hne.out (by decide) _)) ?_
  clear M0 cj x1 c5 f5 ci fi fj
  intro W2 M2
  have S := fill_moved b r a1 a2 w W2 f base cap data j p bs q H.out M2
  have HC := Lib.hid M2.chg
  clear M2
  obtain ⟨m, hm⟩ : ∃ m, m = Nat.min (data.length - p) (4096 - 2) := ⟨_, rfl⟩
  have HR : Hid (∀ v, v = .slice (some ⟨b, 6, none⟩) 4094 4094 → Calls Tryd.prog 74 #[.pointer (some ⟨r, 0, none⟩), v] W2.drew fun e w' => e = .returned (.tuple #[.int .i64 (m : Int), .nilIface]) ∧
      w'.cell? ⟨b, 4101, none⟩ = some (.int .i64 2) ∧ w'.frozen? ⟨b, 4101, none⟩ = false ∧ Hid (ReadDone W2 b r (fMove f bs j) base cap data 2 p m w')) :=
    fun v hv => by rw [hv]; exact read_done b r a1 a2 W2 (fMove f bs j) base cap data 2 p (bsMove bs j) S (by omega) hp m hm 1
  have hml : p + m ≤ data.length := by have : m ≤ data.length - p := by rw [hm]; exact Nat.min_le_left _ _
                                       omega
  have hmj : 2 + m ≤ 4096 := by have : m ≤ 4096 - 2 := by rw [hm]; exact Nat.min_le_right _ _
                                omega
  have hm0 : 0 < m := by rw [hm]; simp only [Nat.lt_min]; omega
  have fin : ∀ w1, ReadDone W2 b r (fMove f bs j) base cap data 2 p m w1 → FillPost w b r a1 a2 f base cap data p (.returned .nilIface) (w1.setCell ⟨b, 4101, none⟩ (.int .i64 (2 + (m : Int)))) := fun w1 ⟨B, R, C⟩ => by
    have C' := C.setCell (p := ⟨b, 4101, none⟩) (fun _ => .inl rfl) (.int .i64 (2 + (m : Int)))
    have S' := src_filled S m hml hmj _ (B.setCell (k := 4101) (by decide) _) (R.setOther (p := ⟨b, 4101, none⟩) (fun e => S.ne e.symm) _) C'
    refine FillPost.moved (j := j) (bs := bs) HC.out ⟨_, _, _, _, _, S', bufd_put _ data 2 p m hml, fun k hk => ?_, C', .inl ⟨rfl, by omega⟩⟩
    rw [upd_ne _ _ _ _ (by omega), updRow_out _ _ _ _ (by rw [given_length _ _ _ hml]; omega)]
  have FIN := Lib.hid fin
  clear fin
  have c0 := S.blk.at 0 (by decide) S.rd
  have cj := S.blk.at 4101 (by decide) (v := .int .i64 2) S.hj
  have mR := fill_method
  have hm' : 0 < (m : Int) := by omega
  have hm4 : 2 + (m : Int) ≤ 4096 := by omega
  clear S hm hml hmj hp H hne HC h2 h2' h4' e2 e2' e1 e1' hj4
  go_region_with (go_at_call 74; (with_reducible refine (HR.out _ rfl).mono ?_); rintro e w1 ⟨rfl, cj1, fj1, HD⟩)
  all_goals go_wp2_with fail
  all_goals go_ret
  all_goals exact FIN.out _ HD.out
end Go.Proofs.YtkkplbfbhmlnoaaDoor
