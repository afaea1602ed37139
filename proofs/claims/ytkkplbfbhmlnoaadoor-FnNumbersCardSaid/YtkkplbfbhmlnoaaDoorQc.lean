/- (*decoder).processDQT: the tables that it lays, and its error. Conditions: the decoder reads just the segment, no byte to be given back. -/
import Derived.Test.YtkkplbfbhmlnoaaDoorQb
import Derived.Test.YtkkplbfbhmlnoaaDoorRg
import Derived.Deep.Cut
namespace Go.Proofs.YtkkplbfbhmlnoaaDoor
open Go.RowKit

theorem Mid.refl {w : World} {b r : Nat} {g F : Nat → Value} (hb : Blk w b 9020 F) (hr : Blk w r 3 g) : Mid w b r g F w := ⟨hb, hr, Chg.refl _ w⟩

theorem Src.drewN {w : World} {b r : Nat} {a1 a2 : Addr} {f : Nat → Value} {base : Option Addr} {cap : Nat} {data rest : List UInt8} (h : Src w b r a1 a2 f base cap data rest) (n : Nat) : Src (w.drewN n) b r a1 a2 f base cap data rest := by
  obtain ⟨i, j, p, bs, S, hr⟩ := h
  exact ⟨i, j, p, bs, S.drewN n, hr⟩
/-- A store behind the buffer's counters. -/
theorem Src.set {w : World} {b r : Nat} {a1 a2 : Addr} {f : Nat → Value} {base : Option Addr} {cap : Nat} {data rest : List UInt8} (h : Src w b r a1 a2 f base cap data rest) {k : Nat} (hk : (1 ≤ k ∧ k < 4) ∨ 4102 ≤ k) (hk2 : k < 9020) (v : Value) :
    Src (w.setCell ⟨b, k, none⟩ v) b r a1 a2 (upd f k v) base cap data rest := by
  obtain ⟨i, j, p, bs, S, hr⟩ := h
  obtain ⟨q, M⟩ := S.mid
  exact ⟨i, j, p, bs, S.of (M.set S.ne hk2 v) i (upd_ne _ _ _ _ (by omega)) (by rw [upd_ne _ _ _ _ (by omega)]; exact S.hi) (by rw [upd_ne _ _ _ _ (by omega)]; exact S.hj) S.ij (fun c hc => upd_ne _ _ _ _ (by omega)), hr⟩
theorem Src.blk {w : World} {b r : Nat} {a1 a2 : Addr} {f : Nat → Value} {base : Option Addr} {cap : Nat} {data rest : List UInt8} (h : Src w b r a1 a2 f base cap data rest) : Blk w b 9020 f := by
  obtain ⟨i, j, p, bs, S, hr⟩ := h
  exact S.blk

/-- The decoder's tables are T, and it will read l. -/
def DSt (w : World) (b r : Nat) (a1 a2 : Addr) (base : Option Addr) (cap : Nat) (data : List UInt8) (T : Nat → Nat → Nat) (F : Nat → Value) (l : List UInt8) (wr : World) : Prop :=
  Src wr b r a1 a2 F base cap data l ∧ F 4102 = .int .i64 0 ∧ (∀ c, c < 256 → F (8636 + c) = .int .i32 ((T (c / 64) (c % 64) : Nat) : Int)) ∧ Chg (BR b r) w wr

def DRel (w : World) (b r : Nat) (a1 a2 : Addr) (base : Option Addr) (cap : Nat) (data : List UInt8) (R : (Nat → Nat → Nat) × Nat) (gk : Nat) (v : Value) (wr : World) : Prop :=
  ∃ T l F, v = .int .i64 (l.length : Int) ∧ l.length ≤ 4611686018427392000 ∧ l.length < gk ∧ qRun gk T l = R ∧ DSt w b r a1 a2 base cap data T F l wr

def DPost (w : World) (b r : Nat) (R : (Nat → Nat → Nat) × Nat) (e : Ending) (w' : World) : Prop :=
  ∃ F, Blk w' b 9020 F ∧ Chg (BR b r) w w' ∧ (∀ c, c < 256 → F (8636 + c) = .int .i32 ((R.1 (c / 64) (c % 64) : Nat) : Int)) ∧
    ((R.2 ≠ 1 ∧ e = .returned .nilIface) ∨ (R.2 = 1 ∧ ∃ s, e = .returned (.iface 103 (.string s))))

/-- While k places of a table are laid. -/
def DIn (w : World) (b r : Nat) (a1 a2 : Addr) (base : Option Addr) (cap : Nat) (data : List UInt8) (T : Nat → Nat → Nat) (x : UInt8) (xs : List UInt8) (d j : Nat) (wr : World) : Prop :=
  ∃ F, DSt w b r a1 a2 base cap data (qPart T x xs j) F (xs.drop d) wr ∧ ∀ t, t < d → F (8892 + t) = .int .u8 ((xs.getD t 0).toNat : Int)

theorem dIn_step {w : World} {b r : Nat} {a1 a2 : Addr} {base : Option Addr} {cap : Nat} {data : List UInt8} {T : Nat → Nat → Nat} {x : UInt8} {xs : List UInt8} {d j n : Nat} {wr : World} (h : DIn w b r a1 a2 base cap data T x xs d j wr) (hj : j < 64) (hx : x.toNat % 16 ≤ 3)
    (v : Int) (hv : v = ((qSet T x xs (x.toNat % 16) j : Nat) : Int)) : DIn w b r a1 a2 base cap data T x xs d (j + 1) ((wr.setCell ⟨b, 8636 + x.toNat % 16 * 64 + j, none⟩ (.int .i32 v)).drewN n) := by
  obtain ⟨F, ⟨S, hu, hT, hC⟩, ht⟩ := h
  refine ⟨upd F (8636 + x.toNat % 16 * 64 + j) (.int .i32 v), ⟨(S.set (by omega) (by omega) _).drewN n, by rw [upd_ne _ _ _ _ (by omega)]; exact hu, fun c hc => ?_, (hC.setCell (p := ⟨b, 8636 + x.toNat % 16 * 64 + j, none⟩) (fun _ => .inl rfl) _).drewN n⟩, fun t htd => ?_⟩
  · by_cases e : c = x.toNat % 16 * 64 + j
    · subst e
      rw [show 8636 + (x.toNat % 16 * 64 + j) = 8636 + x.toNat % 16 * 64 + j by omega, upd_same, hv]
      unfold qPart
      rw [show (x.toNat % 16 * 64 + j) / 64 = x.toNat % 16 by omega, show (x.toNat % 16 * 64 + j) % 64 = j by omega, if_pos ⟨rfl, by omega⟩]
    · rw [upd_ne _ _ _ _ (by omega), hT c hc]
      unfold qPart
      by_cases h1 : c / 64 = x.toNat % 16 ∧ c % 64 < j
      · rw [if_pos h1, if_pos ⟨h1.1, by omega⟩]
      · rw [if_neg h1, if_neg (by omega)]
  · rw [upd_ne _ _ _ _ (by omega)]; exact ht t htd

theorem dIn_done {w : World} {b r : Nat} {a1 a2 : Addr} {base : Option Addr} {cap : Nat} {data : List UInt8} {T : Nat → Nat → Nat} {x : UInt8} {xs : List UInt8} {d : Nat} {wr : World} (h : DIn w b r a1 a2 base cap data T x xs d 64 wr) :
    ∃ F, DSt w b r a1 a2 base cap data (qSet T x xs) F (xs.drop d) wr := by
  obtain ⟨F, ⟨S, hu, hT, hC⟩, ht⟩ := h
  refine ⟨F, S, hu, fun c hc => ?_, hC⟩
  have := congrFun (qPart_all T x xs) c
  unfold tF at this
  rw [hT c hc]
  injection this with _ h2
  rw [h2]

theorem dRel_next {w : World} {b r : Nat} {a1 a2 : Addr} {base : Option Addr} {cap : Nat} {data : List UInt8} {R : (Nat → Nat → Nat) × Nat} {T : Nat → Nat → Nat} {x : UInt8} {xs : List UInt8} {kk m : Nat} {wr : World} (d : Nat) (hd : d = 64 * (x.toNat / 16 + 1)) (hdm : d ≤ m)
    (hQ : qRun kk (qSet T x xs) (xs.drop (64 * (x.toNat / 16 + 1))) = R ∧ xs.length = m ∧ (x :: xs).length < kk + 1) (hm : m < 4611686018427392000) (H : DIn w b r a1 a2 base cap data T x xs d 64 wr) :
    DRel w b r a1 a2 base cap data R kk (.int .i64 ((m : Int) - (d : Int))) wr := by
  obtain ⟨F, D⟩ := dIn_done H
  obtain ⟨h1, h2, h3⟩ := hQ
  have hl : (xs.drop d).length = m - d := by rw [List.length_drop, h2]
  refine ⟨qSet T x xs, xs.drop d, F, by rw [hl]; congr 1; omega, by omega, by simp at h3; omega, by rw [hd]; exact h1, D⟩

set_option maxRecDepth 100000 in
set_option maxHeartbeats 4000000 in
theorem dqt_any (b r : Nat) (a1 a2 : Addr) (w : World) (f : Nat → Value) (base : Option Addr) (cap : Nat) (data l : List UInt8) (S : Src w b r a1 a2 f base cap data l) (hu : f 4102 = .int .i64 0) (hq : ∀ c, c < 256 → f (8636 + c) = .int .i32 0) :
    Calls Tryd.prog 30 #[.pointer (some ⟨b, 0, none⟩), .int .i64 (l.length : Int)] w (DPost w b r (qRun (l.length + 1) (fun _ _ => 0) l)) := by
  have hl : l.length ≤ 4611686018427392000 := by
    obtain ⟨i, j, p, bs, S0, hr⟩ := S
    have h1 := congrArg List.length hr
    have h2 := S0.hcap
    have h3 := S0.hmax
    have h4 := S0.hp
    have h5 := S0.j4
    simp [bufd] at h1
    omega
  have START : Hid (DRel w b r a1 a2 base cap data (qRun (l.length + 1) (fun _ _ => 0) l) (l.length + 1) (.int .i64 (l.length : Int)) w) :=
    ⟨fun _ _ => 0, l, f, rfl, hl, by omega, rfl, S, hu, hq, Chg.refl _ w⟩
  generalize qRun (l.length + 1) (fun _ _ => 0) l = R at *
  clear S hu hq
  go_enter Tryd.func30, Tryd.ntmps30
  go_wp2_with fail
  go_step3
  go_wp2_with fail
  go_step3
  go_wp2_with fail
  go_loopg [1] (l.length + 1) (fun k v wr => DRel w b r a1 a2 base cap data R k v wr)
  case atStart => exact START.out
  case round =>
    clear START
    obtain ⟨T, l', F, rfl, hlb, hlt, hR, hD⟩ := hrel
    cases l' with
    | nil =>
      have FIN : Hid (DPost w b r R (.returned .nilIface) wr) := by
        obtain ⟨kk, rfl⟩ : ∃ kk, gk = kk + 1 := ⟨gk - 1, by omega⟩
        rw [← hR]
        exact ⟨F, hD.1.blk, hD.2.2.2, hD.2.2.1, .inl ⟨by simp [qRun], rfl⟩⟩
      have hl0 : ([] : List UInt8).length = 0 := rfl
      rw [hl0]
      clear hlt hR hD hl0
      go_wp2_with fail
      rw [Exit.noGoto_ret]
      go_ret
      exact FIN.out
    | cons x xs =>
      obtain ⟨m, hm⟩ : ∃ m, xs.length = m := ⟨_, rfl⟩
      have hlen : (x :: xs).length = m + 1 := by simp [hm]
      rw [hlen]
      have hx : x.toNat < 256 := x.toNat_lt
      have hmb : m < 4611686018427392000 := by omega
      clear hlb
      have HA := Lib.hid (And.intro hlt (And.intro hR (And.intro hD (And.intro hm hlen))))
      clear hlt hR hD hm hlen
      obtain ⟨kk, rfl⟩ : ∃ kk, gk = kk + 1 := ⟨gk - 1, by have := HA.out.1; omega⟩
      have hmi : (m : Int) < 4611686018427392000 := by omega
      go_wp2_with fail
      refine (readByte_any b r a1 a2 _ F base cap data (x :: xs) HA.out.2.2.1.1).mono ?_
      rintro e w1 ⟨F1, hC1, hF1, ⟨x', xs', hxx, rfl, hS1, hu1⟩ | ⟨hxx, _⟩⟩
      case inr => cases hxx
      obtain ⟨rfl, rfl⟩ : x = x' ∧ xs = xs' := ⟨List.head_eq_of_cons_eq hxx, List.tail_eq_of_cons_eq hxx⟩
      have D1 : DSt w b r a1 a2 base cap data T F1 xs w1 := ⟨hS1, hu1, fun c hc => by rw [hF1 _ (by omega)]; exact HA.out.2.2.1.2.2.1 c hc, HA.out.2.2.1.2.2.2.trans hC1⟩
      have HD1 := Lib.hid D1
      clear hxx hC1 hF1 hS1 hu1 D1
      have ILL : qRun (kk + 1) T (x :: xs) = (T, 1) → Hid (∀ s W, Chg (fun _ => False) w1 W → (∀ b F, Blk w1 b 9020 F → Blk W b 9020 F) → DPost w b r R (.returned (.iface 103 (.string s))) W) := fun h => by
        intro s W hW hB
        refine ⟨F1, hB _ _ HD1.out.1.blk, HD1.out.2.2.2.trans (hW.mono fun _ _ h => absurd h id), ?_, ?_⟩
        · rw [← HA.out.2.1, h]; exact HD1.out.2.2.1
        · rw [← HA.out.2.1, h]; exact .inr ⟨rfl, s, rfl⟩
      by_cases h2 : 3 < x.toNat % 16
      · have h2' : 3 < (x.toNat : Int) % 16 := by omega
        have FIN := ILL (qRun_bad kk T x xs (.inr h2))
        clear ILL h2
        go_wp2_with fail
        try rw [Exit.noGoto_ret]
        go_ret
        exact FIN.out _ _ (Chg.refl _ _) (fun _ _ h => h)
      have h2' : decide (3 < (x.toNat : Int) % 16) = false := by simp; omega
      by_cases h1 : 1 < x.toNat / 16
      · have h1' : ¬ (x.toNat : Int) / 16 = 0 := by omega
        have h1'' : ¬ (x.toNat : Int) / 16 = 1 := by omega
        have FIN := ILL (qRun_bad kk T x xs (.inl h1))
        clear ILL h2 h1
        have e1 : ((x.toNat : Int) / 16 == 0) = false := by simp; omega
        have e2 : ((x.toNat : Int) / 16 == 1) = false := by simp; omega
        clear h1' h1''
        go_wp2_with fail
        try rw [Exit.noGoto_ret]
        go_ret
        exact FIN.out _ _ (Chg.refl _ _) (fun _ _ h => h)
      have hA : x.toNat / 16 = 0 ∨ x.toNat / 16 = 1 := by omega
      by_cases h3 : m < 64 * (x.toNat / 16 + 1)
      · have hq := qRun_short kk T x xs (by omega) (by omega) (by have := HA.out.2.2.2.1; omega)
        rw [HA.out.2.2.2.1] at hq
        by_cases h4 : m = 0
        · subst h4
          have FIN : Hid (DPost w b r R (.returned .nilIface) w1) := by
            refine ⟨F1, HD1.out.1.blk, HD1.out.2.2.2, ?_, ?_⟩
            · rw [← HA.out.2.1, hq]; exact HD1.out.2.2.1
            · rw [← HA.out.2.1, hq]; exact .inl ⟨by simp, rfl⟩
          clear ILL hq h1 h2 h3
          rcases hA with hA | hA
          · have e1 : ((x.toNat : Int) / 16 == 0) = true := by simp; omega
            clear hA
            go_wp2_with fail
            try rw [Exit.noGoto_ret]
            go_ret
            exact FIN.out
          · have e1 : ((x.toNat : Int) / 16 == 0) = false := by simp; omega
            have e2 : ((x.toNat : Int) / 16 == 1) = true := by simp; omega
            clear hA
            go_wp2_with fail
            try rw [Exit.noGoto_ret]
            go_ret
            exact FIN.out
        · rw [if_neg h4] at hq
          have FIN := ILL hq
          have e4 : ((m : Int) != 0) = true := by simp; omega
          clear ILL hq h1 h2 h4
          rcases hA with hA | hA
          · have e1 : ((x.toNat : Int) / 16 == 0) = true := by simp; omega
            have h3' : decide ((m : Int) < 64) = true := by simp; omega
            clear hA h3
            go_wp2_with fail
            try rw [Exit.noGoto_ret]
            go_ret
            exact FIN.out _ _ (Chg.refl _ _) (fun _ _ h => h)
          · have e1 : ((x.toNat : Int) / 16 == 0) = false := by simp; omega
            have e2 : ((x.toNat : Int) / 16 == 1) = true := by simp; omega
            have h3' : decide ((m : Int) < 128) = true := by simp; omega
            clear hA h3
            go_wp2_with fail
            try rw [Exit.noGoto_ret]
            go_ret
            exact FIN.out _ _ (Chg.refl _ _) (fun _ _ h => h)
      have HQ : Hid (qRun kk (qSet T x xs) (xs.drop (64 * (x.toNat / 16 + 1))) = R ∧ xs.length = m ∧ (x :: xs).length < kk + 1) :=
        ⟨by rw [← HA.out.2.1]; exact (qRun_next kk T x xs (by omega) (by omega) (by have := HA.out.2.2.2.1; omega)).symm, HA.out.2.2.2.1, HA.out.1⟩
      clear ILL HA
      rcases hA with hA | hA
      · have hAq := Lib.hid hA
        have e1 : ((x.toNat : Int) / 16 == 0) = true := by simp; omega
        have h3' : decide ((m : Int) < 64) = false := by simp; omega
        have hm64 : 64 ≤ m := by omega
        have hm64i : 64 ≤ (m : Int) := by omega
        have hq3 : x.toNat % 16 ≤ 3 := by omega
        clear h1 h2 h3 hA
        go_wp2_with fail
        refine (readFull_any b r a1 a2 _ F1 base cap data xs 8892 64 128 HD1.out.1 HD1.out.2.1 (by decide) (by decide) (by decide) (by decide) (by decide) (by have := HQ.out.2.1; omega)).mono ?_
        rintro e w2 ⟨F2, rfl, hC2, hS2, ht2, hF2, hu2⟩
        have IN : Hid (DIn w b r a1 a2 base cap data T x xs 64 0 w2) :=
          ⟨F2, ⟨hS2, hu2, fun c hc => by rw [hF2 _ (by omega), qPart_zero]; exact HD1.out.2.2.1 c hc, HD1.out.2.2.2.trans hC2⟩, ht2⟩
        clear hC2 hS2 ht2 hF2 hu2 HD1 e1 h3'
        go_wp2_with fail
        obtain ⟨wo, rfl⟩ : ∃ wo : World, wo = w2 := ⟨_, rfl⟩
        go_loopg [47] 64 (fun k v wr' => ∃ j : Nat, v = .int .i64 (j : Int) ∧ j + k = 64 ∧ Hid (DIn w b r a1 a2 base cap data T x xs 64 j wr'))
        case atStart => exact ⟨0, rfl, rfl, IN⟩
        case round =>
          clear IN
          obtain ⟨j, rfl, hjk, HI⟩ := hrel
          by_cases hj : j < 64
          · have hj' : (j : Int) < 64 := by omega
            obtain ⟨v, hv, hcv, hct, hft, hv6⟩ : ∃ v : Nat, qSet T x xs (x.toNat % 16) j = v ∧ wr.cell? ⟨b, 8892 + j, none⟩ = some (.int .u8 (v : Int)) ∧
                (∃ u, wr.cell? ⟨b, 8636 + x.toNat % 16 * 64 + j, none⟩ = some u) ∧ wr.frozen? ⟨b, 8636 + x.toNat % 16 * 64 + j, none⟩ = false ∧ v < 256 := by
              obtain ⟨F, ⟨S, hu, hT, hC⟩, ht⟩ := HI.out
              exact ⟨(xs.getD j 0).toNat, by unfold qSet; rw [if_pos rfl, if_pos hAq.out], S.blk.at _ (by omega) (ht j hj), ⟨_, S.blk.cell _ (by omega)⟩, S.blk.free _, (xs.getD j 0).toNat_lt⟩
            obtain ⟨u, hct⟩ := hct
            have hvi : (v : Int) < 256 := by omega
            have HV := Lib.hid hv
            clear hv
            have ea : 8636 + (x.toNat % 16 * 64 + j) = 8636 + x.toNat % 16 * 64 + j := by omega
            go_wp2_with fail
            refine wp_region_tail 13 (by kernel_rfl) (by kernel_rfl) ?_
            simp only [List.take_succ_cons, List.take_zero, List.drop_succ_cons, List.drop_zero]
            repeat (go_big_quiet_step (fail))
            refine wpQuiet_nil ?_
            go_wp2_with fail
            go_roundg (gk - 1)
            case measure => omega
            case rel => exact ⟨j + 1, by go_num, by omega, dIn_step HI.out hj hq3 _ (by rw [HV.out])⟩
          · obtain rfl : j = 64 := by omega
            clear hj
            have FIN : Hid (DRel w b r a1 a2 base cap data R kk (.int .i64 ((m : Int) - 64)) wr) := dRel_next 64 (by rw [hAq.out]) (by omega) HQ.out hmb HI.out
            clear HI
            go_wp2_with fail
            go_roundg kk
            case measure => omega
            case rel => exact FIN.out
      · have hAq := Lib.hid hA
        have e1 : ((x.toNat : Int) / 16 == 0) = false := by simp; omega
        have e2 : ((x.toNat : Int) / 16 == 1) = true := by simp; omega
        have h3' : decide ((m : Int) < 128) = false := by simp; omega
        have hm64 : 128 ≤ m := by omega
        have hm64i : 128 ≤ (m : Int) := by omega
        have hq3 : x.toNat % 16 ≤ 3 := by omega
        clear h1 h2 h3 hA
        go_wp2_with fail
        refine (readFull_any b r a1 a2 _ F1 base cap data xs 8892 128 128 HD1.out.1 HD1.out.2.1 (by decide) (by decide) (by decide) (by decide) (by decide) (by have := HQ.out.2.1; omega)).mono ?_
        rintro e w2 ⟨F2, rfl, hC2, hS2, ht2, hF2, hu2⟩
        have IN : Hid (DIn w b r a1 a2 base cap data T x xs 128 0 w2) :=
          ⟨F2, ⟨hS2, hu2, fun c hc => by rw [hF2 _ (by omega), qPart_zero]; exact HD1.out.2.2.1 c hc, HD1.out.2.2.2.trans hC2⟩, ht2⟩
        clear hC2 hS2 ht2 hF2 hu2 HD1 e1 e2 h3'
        go_wp2_with fail
        obtain ⟨wo, rfl⟩ : ∃ wo : World, wo = w2 := ⟨_, rfl⟩
        go_loopg [80] 64 (fun k v wr' => ∃ j : Nat, v = .int .i64 (j : Int) ∧ j + k = 64 ∧ Hid (DIn w b r a1 a2 base cap data T x xs 128 j wr'))
        case atStart => exact ⟨0, rfl, rfl, IN⟩
        case round =>
          clear IN
          obtain ⟨j, rfl, hjk, HI⟩ := hrel
          by_cases hj : j < 64
          · have hj' : (j : Int) < 64 := by omega
            obtain ⟨v, u', hv, hcv, hcu, hct, hft, hv6, hu6⟩ : ∃ v u : Nat, qSet T x xs (x.toNat % 16) j = v * 256 + u ∧ wr.cell? ⟨b, 8892 + 2 * j, none⟩ = some (.int .u8 (v : Int)) ∧ wr.cell? ⟨b, 8892 + (2 * j + 1), none⟩ = some (.int .u8 (u : Int)) ∧
                (∃ u, wr.cell? ⟨b, 8636 + x.toNat % 16 * 64 + j, none⟩ = some u) ∧ wr.frozen? ⟨b, 8636 + x.toNat % 16 * 64 + j, none⟩ = false ∧ v < 256 ∧ u < 256 := by
              obtain ⟨F, ⟨S, hu, hT, hC⟩, ht⟩ := HI.out
              exact ⟨(xs.getD (2 * j) 0).toNat, (xs.getD (2 * j + 1) 0).toNat, by unfold qSet; rw [if_pos rfl, if_neg (by rw [hAq.out]; decide)], S.blk.at _ (by omega) (ht (2 * j) (by omega)), S.blk.at _ (by omega) (ht (2 * j + 1) (by omega)), ⟨_, S.blk.cell _ (by omega)⟩, S.blk.free _, (xs.getD (2 * j) 0).toNat_lt, (xs.getD (2 * j + 1) 0).toNat_lt⟩
            obtain ⟨u, hct⟩ := hct
            have hvi : (v : Int) < 256 := by omega
            have hui : (u' : Int) < 256 := by omega
            have hor := or32_byte v u' hv6 hu6
            have HV := Lib.hid hv
            clear hv
            have ea : 8636 + (x.toNat % 16 * 64 + j) = 8636 + x.toNat % 16 * 64 + j := by omega
            go_wp2_with fail
            refine wp_region_tail 25 (by kernel_rfl) (by kernel_rfl) ?_
            simp only [List.take_succ_cons, List.take_zero, List.drop_succ_cons, List.drop_zero]
            repeat (go_big_quiet_step (fail))
            refine wpQuiet_nil ?_
            go_wp2_with fail
            go_roundg (gk - 1)
            case measure => omega
            case rel => exact ⟨j + 1, by go_num, by omega, dIn_step HI.out hj hq3 _ (by rw [HV.out]; simp)⟩
          · obtain rfl : j = 64 := by omega
            clear hj
            have FIN : Hid (DRel w b r a1 a2 base cap data R kk (.int .i64 ((m : Int) - 128)) wr) := dRel_next 128 (by rw [hAq.out]) (by omega) HQ.out hmb HI.out
            clear HI
            go_wp2_with fail
            go_roundg kk
            case measure => omega
            case rel => exact FIN.out
end Go.Proofs.YtkkplbfbhmlnoaaDoor
