/- (*decoder).processDHT. Conditions: the decoder reads just the segment, no byte to be given back, not baseline. -/
import Derived.Test.YtkkplbfbhmlnoaaDoorHb
import Derived.Deep.Cut
namespace Go.Proofs.YtkkplbfbhmlnoaaDoor
open Go.RowKit

theorem wrap_one : wrap32 (wrap32 (0 + ((1 : Nat) : Int)) - 1) = 0 := by simp only [wrap32]; omega

set_option maxRecDepth 100000 in
set_option maxHeartbeats 4000000 in
theorem dht_any (b r : Nat) (a1 a2 : Addr) (w : World) (f : Nat → Value) (base : Option Addr) (cap : Nat) (data l : List UInt8) (S : Src w b r a1 a2 f base cap data l) (hu : f 4102 = .int .i64 0) (hbl : f 4114 = .bool false) :
    Calls Tryd.prog 36 #[.pointer (some ⟨b, 0, none⟩), .int .i64 (l.length : Int)] w (DHPost (l = T18) w b r a1 a2 base cap data f (hRun (l.length + 1) l)) := by
  have hl : l.length ≤ 4611686018427392000 := by
    obtain ⟨i, j, p, bs, S0, hr⟩ := S
    have h1 := congrArg List.length hr
    have h2 := S0.hcap
    have h3 := S0.hmax
    have h4 := S0.hp
    have h5 := S0.j4
    simp [bufd] at h1
    omega
  have START : Hid (DHRel (l = T18) w b r a1 a2 base cap data f (hRun (l.length + 1) l) (l.length + 1) (.int .i64 (l.length : Int)) w) :=
    ⟨l, f, rfl, hl, by omega, rfl, ⟨S, hu, hbl, fun _ _ => rfl, Chg.refl _ w⟩, fun h => .inl h⟩
  generalize hRun (l.length + 1) l = R at *
  generalize (l = T18) = cond at *
  have hw3 : 2 < w.heap.size := S.glob.lt
  have HD0 := Lib.hid S.dat.lt
  clear S hu hbl
  go_enter Tryd.func36, Tryd.ntmps36
  go_wp2_with fail
  go_loopg [1] (l.length + 1) (fun k v wr => DHRel cond w b r a1 a2 base cap data f R k v wr)
  case atStart => exact START.out
  case round =>
    clear START
    obtain ⟨l', F, rfl, hlb, hlt, hR, hD, hcc⟩ := hrel
    obtain ⟨kk, rfl⟩ : ∃ kk, gk = kk + 1 := ⟨gk - 1, by omega⟩
    obtain ⟨m, hml⟩ : ∃ m, l'.length = m := ⟨_, rfl⟩
    rw [hml]
    by_cases h17 : m < 17
    · have hRe := hRun_end kk l' (by omega)
      rw [hR, hml] at hRe
      have hmi : (m : Int) < 17 := by omega
      by_cases h0 : m = 0
      · subst h0
        have FIN : Hid (DHPost cond w b r a1 a2 base cap data f R (.returned .nilIface) wr) := by
          have hl0 : l' = [] := List.eq_nil_of_length_eq_zero hml
          subst hl0
          refine ⟨hD.chg, .inl ⟨by rw [hRe]; rfl, rfl, F, hD, fun h => ?_⟩⟩
          rcases hcc h with h | h
          · cases h
          · exact h.2
        clear hlb hlt hR hD hcc hml h17 hRe
        go_wp2_with fail
        go_ret
        exact FIN.out
      · have FIN : Hid (∀ s, DHPost cond w b r a1 a2 base cap data f R (.returned (.iface 103 (.string s))) wr) := fun s => ⟨hD.chg, .inr ⟨by rw [hRe, decide_eq_false h0], s, rfl⟩⟩
        have q1 : decide ((0 : Int) < (m : Int)) = true := by simp; omega
        have q1' : decide (0 < m) = true := by simp; omega
        clear hlb hlt hR hD hcc hml h17 hRe h0
        go_wp2_with fail
        go_ret
        exact FIN.out _
    · have q1 : decide ((0 : Int) < (m : Int)) = true := by simp; omega
      have q1' : decide (0 < m) = true := by simp; omega
      have q2 : decide ((m : Int) < 17) = false := by simp; omega
      have HX := Lib.hid (And.intro hlt (And.intro hR (And.intro hD (And.intro hcc hml))))
      have hmb0 : m ≤ 4611686018427392000 := by omega
      clear hlb hlt hR hD hcc hml
      go_wp2_with fail
      refine (readFull_any b r a1 a2 _ F base cap data l' 8892 17 128 HX.out.2.2.1.src HX.out.2.2.1.hu (by decide) (by decide) (by decide) (by decide) (by decide) (by rw [HX.out.2.2.2.2]; omega)).mono ?_
      rintro e w1 ⟨F1, rfl, hC1, hS1, ht1, hF1, hu1⟩
      obtain ⟨x, hx, hx6⟩ : ∃ x : Nat, (l'.getD 0 0).toNat = x ∧ x < 256 := ⟨_, rfl, (l'.getD 0 0).toNat_lt⟩
      have cx := hS1.blk.at 8892 (by decide) (ht1 0 (by decide))
      rw [hx] at cx
      have cb := hS1.blk.at 4114 (by decide) ((hF1 4114 (by omega)).trans HX.out.2.2.1.hbl)
      have BAD : Hid ((1 < x / 16 ∨ 3 < x % 16) → ∀ s, DHPost cond w b r a1 a2 base cap data f R (.returned (.iface 103 (.string s))) w1) := fun hb s =>
        ⟨HX.out.2.2.1.chg.trans hC1, .inr ⟨by rw [← HX.out.2.1]; exact hRun_bad kk l' (by rw [HX.out.2.2.2.2]; omega) (by rw [hx]; omega), s, rfl⟩⟩
      have H1 := Lib.hid (And.intro hC1 (And.intro hS1 (And.intro ht1 (And.intro hF1 (And.intro hu1 hx)))))
      clear hC1 hS1 ht1 hF1 hu1 hx
      by_cases b1 : 1 < x / 16
      · have q3 : decide (1 < (x : Int) / 16) = true := by simp; omega
        have FIN := Lib.hid (BAD.out (.inl b1))
        clear b1 BAD
        go_wp2_with fail
        go_ret
        exact FIN.out _
      have q3 : decide (1 < (x : Int) / 16) = false := by simp; omega
      by_cases b2 : 3 < x % 16
      · have q4 : decide (3 < (x : Int) % 16) = true := by simp; omega
        have FIN := Lib.hid (BAD.out (.inr b2))
        clear b1 b2 BAD
        go_wp2_with fail
        go_ret
        exact FIN.out _
      have q4 : decide (3 < (x : Int) % 16) = false := by simp; omega
      have hxa : (x : Int) / 16 < 2 := by omega
      have hxb : (x : Int) % 16 < 4 := by omega
      obtain ⟨hb, hhb⟩ : ∃ hb : Nat, 4148 + x / 16 * 2244 + x % 16 * 561 = hb := ⟨_, rfl⟩
      have hbr : 4148 ≤ hb ∧ hb + 561 ≤ 8636 := by omega
      have C18 : Hid (cond → l' = T18 ∧ hb = 4148) := fun hc => by
        rcases HX.out.2.2.2.1 hc with h | h
        · refine ⟨h, ?_⟩
          have h0 := H1.out.2.2.2.2.2
          rw [h] at h0
          have : x = 0 := by rw [← h0]; decide
          subst this
          omega
        · have h0 := HX.out.2.2.2.2
          rw [h.1] at h0
          simp at h0
          omega
      clear BAD
      have ch := H1.out.2.1.blk.cell hb (by omega)
      have fh := H1.out.2.1.blk.free hb
      go_wp2_with (refine wpList_alloc92 rfl rfl ?_; simp only [Act.put, List.setIfInBounds_toArray, List.set])
      rw [hhb]
      simp only [World.size_setCell]
      obtain ⟨m9, hm9⟩ : ∃ m9, w1.heap.size = m9 := ⟨_, rfl⟩
      rw [hm9]
      have hsz := H1.out.1.size
      refine cutG (fun W => HW w b r a1 a2 base cap data (upd F1 hb (.int .i32 0)) (l'.drop 17) m9 nZero W) ?_ ?_
      · have S2 := H1.out.2.1.set (k := hb) (.inr (by omega)) (by omega) (.int .i32 0)
        have C : Chg (fun _ => False) (w1.setCell ⟨b, hb, none⟩ (.int .i32 0)) ((w1.setCell ⟨b, hb, none⟩ (.int .i32 0)).alloc (.cells (arr 16 nZero) 92)) := (Chg.refl _ _).alloc _
        have CW : Chg (BR b r) w ((w1.setCell ⟨b, hb, none⟩ (.int .i32 0)).alloc (.cells (arr 16 nZero) 92)) := ((HX.out.2.2.1.chg.trans H1.out.1).setCell (p := ⟨b, hb, none⟩) (fun _ => .inl rfl) _).alloc _
        refine ⟨S2.keep C id id (S2.glob.chg C (fun _ _ h => h)) (S2.dat.chg C (fun _ _ h => h)), ?_, CW, ?_, ?_, ?_, hw3, HD0.out.chg CW (fun k hk e => by rcases e with e | e; exact hk.1.1 e; exact hk.1.2 e)⟩
        · have := Blk.ofNew (w1.setCell ⟨b, hb, none⟩ (.int .i32 0)) (arr 16 nZero) 92 16 _ (fun k hk => arr_get _ _ _ hk)
          rwa [World.size_setCell, hm9] at this
        · have := H1.out.2.1.blk.lt; omega
        · have := H1.out.2.1.rlt; omega
        · rw [← hm9]; exact (HX.out.2.2.1.chg.trans H1.out.1).size
      intro W hW
      have START2 := Lib.hid hW
      clear hW cx cb ch fh
      go_loopg [75] 16 (fun k v wr' => ∃ (i : Nat) (F2 nc : Nat → Value), v = .int .i64 (i : Int) ∧ i + k = 16 ∧ Hid (HW w b r a1 a2 base cap data F2 (l'.drop 17) m9 nc wr' ∧ F2 hb = .int .i32 (csum (cnt l') i : Int) ∧ (∀ c, c ≠ hb → F2 c = F1 c) ∧ (∀ j, j < i → nc j = .int .i32 (cnt l' j : Int))))
      case atStart => exact ⟨0, _, _, rfl, rfl, START2.out, by rw [upd_same]; rfl, fun c hc => upd_ne _ _ _ _ hc, fun j h => absurd h (by omega)⟩
      case round =>
        clear START2
        obtain ⟨i, F2, nc, rfl, hik, HI⟩ := hrel
        by_cases hi : i < 16
        · have hi' : (i : Int) < 16 := by omega
          obtain ⟨v, hv, hv6, cv⟩ : ∃ v : Nat, cnt l' i = v ∧ v < 256 ∧ wr.cell? ⟨b, 8892 + (i + 1), none⟩ = some (.int .u8 (v : Int)) :=
            ⟨_, rfl, (l'.getD (i + 1) 0).toNat_lt, HI.out.1.src.blk.at _ (by omega) ((HI.out.2.2.1 _ (by omega)).trans (H1.out.2.2.1 (i + 1) (by omega)))⟩
          have hsum := csum_le l' i
          obtain ⟨sm, hsm⟩ : ∃ sm, csum (cnt l') i = sm := ⟨_, rfl⟩
          have cs := HI.out.1.src.blk.at hb (by omega) HI.out.2.1
          have fs := HI.out.1.src.blk.free hb
          have cn := HI.out.1.nb.cell i hi
          have fn := HI.out.1.nb.free i
          have hmb := HI.out.1.m9b
          rw [hsm] at cs hsum
          have hsi : (sm : Int) ≤ 4080 := by omega
          have hvi : (v : Int) < 256 := by omega
          have HS := Lib.hid (And.intro hsm hv)
          clear hsm hv hsum
          go_wp2_with fail
          refine wp_region_tail 7 (by kernel_rfl) (by kernel_rfl) ?_
          simp only [List.take_succ_cons, List.take_zero, List.drop_succ_cons, List.drop_zero]
          repeat (go_big_quiet_step (fail))
          refine wpQuiet_nil ?_
          go_wp2_with fail
          have NX : Hid (∀ W, HW w b r a1 a2 base cap data (upd F2 hb (.int .i32 ((sm : Int) + (v : Int)))) (l'.drop 17) m9 (upd nc i (.int .i32 (v : Int))) W → HW w b r a1 a2 base cap data (upd F2 hb (.int .i32 ((sm : Int) + (v : Int)))) (l'.drop 17) m9 (upd nc i (.int .i32 (v : Int))) W ∧ (upd F2 hb (.int .i32 ((sm : Int) + (v : Int)))) hb = .int .i32 (csum (cnt l') (i + 1) : Int) ∧ (∀ c, c ≠ hb → (upd F2 hb (.int .i32 ((sm : Int) + (v : Int)))) c = F1 c) ∧ (∀ j, j < i + 1 → (upd nc i (.int .i32 (v : Int))) j = .int .i32 (cnt l' j : Int))) := fun W hW => by
            refine ⟨hW, ?_, fun c hc => by rw [upd_ne _ _ _ _ hc]; exact HI.out.2.2.1 c hc, fun j hj => ?_⟩
            · rw [upd_same]
              simp only [csum]
              rw [HS.out.1, HS.out.2]
              push_cast
              rfl
            · by_cases e : j = i
              · subst e; rw [upd_same, HS.out.2]
              · rw [upd_ne _ _ _ _ e]; exact HI.out.2.2.2 j (by omega)
          go_roundg (gk - 1)
          case measure => omega
          case rel => exact ⟨i + 1, _, _, by go_num, by omega, NX.out _ (by repeat' (first | exact HI.out.1 | refine HW.drewN ?_ _ | refine HW.drew ?_ | refine HW.setB ?_ (by omega) (by omega) _ | refine HW.setN ?_ hi _))⟩
        · obtain rfl : i = 16 := by omega
          clear hi
          obtain ⟨t, ht⟩ : ∃ t, csum (cnt l') 16 = t := ⟨_, rfl⟩
          have hsum := csum_le l' 16
          have cs := HI.out.1.src.blk.at hb (by omega) HI.out.2.1
          rw [ht] at cs hsum
          have hti : (t : Int) ≤ 4080 := by omega
          have hmb : m ≤ 4611686018427392000 := hmb0
          have BAD : Hid ((t = 0 ∨ 256 < t ∨ m < 17 + t) → ∀ s, DHPost cond w b r a1 a2 base cap data f R (.returned (.iface 103 (.string s))) wr) := fun hb s =>
            ⟨HI.out.1.chg, .inr ⟨by rw [← HX.out.2.1]; exact hRun_bad kk l' (by rw [HX.out.2.2.2.2]; omega) (by rw [H1.out.2.2.2.2.2, ht, HX.out.2.2.2.2]; omega), s, rfl⟩⟩
          have HT := Lib.hid ht
          clear ht hsum
          by_cases b3 : t = 0
          · have q5 : ((t : Int) == 0) = true := by simp; omega
            have FIN := Lib.hid (BAD.out (by omega))
            clear b3
            go_wp2_with fail
            go_ret
            exact FIN.out _
          have q5 : ((t : Int) == 0) = false := by simp; omega
          by_cases b4 : 256 < t
          · have q6 : decide (256 < (t : Int)) = true := by simp; omega
            have FIN := Lib.hid (BAD.out (by omega))
            clear b3 b4
            go_wp2_with fail
            go_ret
            exact FIN.out _
          have q6 : decide (256 < (t : Int)) = false := by simp; omega
          by_cases b5 : m < 17 + t
          · have q7 : decide ((m : Int) - ((t : Int) + 17) < 0) = true := by simp; omega
            have FIN := Lib.hid (BAD.out (by omega))
            clear b3 b4 b5
            go_wp2_with fail
            go_ret
            exact FIN.out _
          have q7 : decide ((m : Int) - ((t : Int) + 17) < 0) = false := by simp; omega
          obtain ⟨mr, hmr⟩ : ∃ mr : Nat, (m : Int) - ((t : Int) + 17) = (mr : Int) := ⟨m - (t + 17), by omega⟩
          have ht256 : (t : Int) ≤ 256 := by omega
          have htp : 0 < t := by omega
          have htp2 : t ≤ 256 := by omega
          have htm : 17 + t ≤ m := by omega
          clear BAD b3 b4 b5
          go_wp2_with fail
          refine wp_region_tail 9 (by kernel_rfl) (by kernel_rfl) ?_
          simp only [List.take_succ_cons, List.take_zero, List.drop_succ_cons, List.drop_zero]
          repeat (go_big_quiet_step (fail))
          refine wpQuiet_nil ?_
          go_wp2_with fail
          refine (readFull_any b r a1 a2 _ F2 base cap data (l'.drop 17) (hb + 257) t 256 HI.out.1.src.drew' ((HI.out.2.2.1 4102 (by omega)).trans H1.out.2.2.2.2.1) (by omega) (by omega) htp htp2 (by decide) (by rw [List.length_drop, HX.out.2.2.2.2]; omega)).mono ?_
          rintro e w3 ⟨F3, rfl, hC3, hS3, hv3, hF3, hu3⟩
          have H3 : Hid (HW w b r a1 a2 base cap data F3 ((l'.drop 17).drop t) m9 nc w3) := HI.out.1.drew.full hS3 hC3
          have HV := Lib.hid (And.intro hv3 (And.intro hF3 hu3))
          clear hC3 hS3 hv3 hF3 hu3 cs
          have CS : Hid (∀ k, k < 256 → (w3.cell? ⟨b, hb + 1 + k, none⟩).isSome = true) := fun k hk => by rw [H3.out.src.blk.cell _ (by omega)]; rfl
          have FS : Hid (∀ k, k < 256 → w3.frozen? ⟨b, hb + 1 + k, none⟩ = false) := fun k hk => H3.out.src.blk.free _
          obtain ⟨F4, hF4, hW4⟩ := H3.out.setBs (o := hb + 1) (by omega) (List.replicate 256 (.int .u16 0)) (by simp; omega)
          have H4 : Hid (HW w b r a1 a2 base cap data F4 ((l'.drop 17).drop t) m9 nc (w3.setCells b (hb + 1) (List.replicate 256 (.int .u16 0)))) := hW4
          have HF4 : Hid (∀ k, k < hb + 1 ∨ hb + 257 ≤ k → F4 k = F3 k) := fun k hk => hF4 k (by simp; omega)
          clear hF4 hW4
          go_wp2_with (refine wpList_clear ?_ (.tmp 138) ?_ b (hb + 1) ?_ CS.out FS.out ?_; exact rfl; exact rfl; exact rfl; simp only [Act.put]; refine cutG (fun W => HW w b r a1 a2 base cap data F4 ((l'.drop 17).drop t) m9 nc W) H4.out ?_; intro W5 hW5; have H5 := Lib.hid hW5; clear hW5)
          obtain ⟨w6, rfl⟩ : ∃ w6 : World, w6 = W5 := ⟨_, rfl⟩
          go_loopg [12, 13, 14] 8 (fun g v12 v13 v14 wr' => ∃ (i cd : Nat) (F5 : Nat → Value), v12 = .int .u32 (csum (cnt l') i : Int) ∧ v13 = .int .u32 (cd : Int) ∧ v14 = .int .u32 (i : Int) ∧ i + g = 8 ∧ cd < 4294967296 ∧ Hid (HW w b r a1 a2 base cap data F5 ((l'.drop 17).drop t) m9 nc wr' ∧ (∀ c, c < hb + 1 ∨ hb + 257 ≤ c → F5 c = F4 c) ∧ (cond → (i = 0 → cd = 0) ∧ (1 ≤ i → F5 4212 = .int .u16 1794))))
          case atStart => exact ⟨0, 0, F4, rfl, rfl, rfl, rfl, by decide, H5.out, fun _ _ => rfl, fun _ => ⟨fun _ => rfl, fun h => absurd h (by decide)⟩⟩
          case round =>
            obtain ⟨gi, hgi⟩ : ∃ gi, gi = gk := ⟨_, rfl⟩
            obtain ⟨i, cd, F5, rfl, rfl, rfl, hig, hcd, HI5⟩ := hrel
            have hcdi : (cd : Int) < 4294967296 := by omega
            have hci6 : cnt l' i < 256 := (l'.getD (i + 1) 0).toNat_lt
            obtain ⟨xs, hxs⟩ : ∃ xs, csum (cnt l') i = xs := ⟨_, rfl⟩
            have hsum := csum_le l' i
            rw [hxs] at hsum ⊢
            by_cases hi8 : i < 8
            · have hi8i : (i : Int) < 8 := by omega
              have hxsi : (xs : Int) ≤ 2040 := by omega
              obtain ⟨ci, hci⟩ : ∃ ci, cnt l' i = ci := ⟨_, rfl⟩
              rw [hci] at hci6
              have cnn := HI5.out.1.nb.at i (by omega) ((HI.out.2.2.2 i (by omega)).trans (by rw [hci]))
              have hcii : (ci : Int) < 256 := by omega
              have hpart := csum_part (cnt l') 16 i (by omega)
              rw [HT.out, hxs, hci] at hpart
              have HXS := Lib.hid (And.intro hxs hci)
              clear hxs hci hsum
              obtain ⟨c2, hc2, hc2b, hc20⟩ : ∃ c2 : Nat, (cd : Int) * 2 % 4294967296 = (c2 : Int) ∧ c2 < 4294967296 ∧ (cd = 0 → c2 = 0) := ⟨cd * 2 % 4294967296, by omega, by omega, by omega⟩
              have HC2 := Lib.hid (And.intro hc2 hc20)
              clear hc2 hc20
              go_wp2_with fail
              go_loopg [12, 13, 15] ci (fun g2 v12 v13 v15 wr2 => ∃ (j cd2 : Nat) (F6 : Nat → Value), v12 = .int .u32 ((xs : Int) + (j : Int)) ∧ v13 = .int .u32 (cd2 : Int) ∧ v15 = .int .i32 (j : Int) ∧ j + g2 = ci ∧ cd2 < 4294967296 ∧ Hid (HW w b r a1 a2 base cap data F6 ((l'.drop 17).drop t) m9 nc wr2 ∧ (∀ c, c < hb + 1 ∨ hb + 257 ≤ c → F6 c = F4 c) ∧ (cond → (i = 0 → j = 0 → cd2 = 0) ∧ (1 ≤ i + j → F6 4212 = .int .u16 1794))))
              case atStart => exact ⟨0, c2, F5, rfl, by rw [HC2.out.1], rfl, by omega, hc2b, HI5.out.1, HI5.out.2.1, fun hc => ⟨fun h0 _ => HC2.out.2 ((HI5.out.2.2 hc).1 h0), fun h1 => (HI5.out.2.2 hc).2 (by omega)⟩⟩
              case round =>
                obtain ⟨gj, hgj⟩ : ∃ gj, gj = gk := ⟨_, rfl⟩
                obtain ⟨j, cd2, F6, rfl, rfl, rfl, hjg, hcd2, HI6⟩ := hrel
                clear cnn
                have cnn2 := HI6.out.1.nb.at i (by omega) ((HI.out.2.2.2 i (by omega)).trans (by rw [HXS.out.2]))
                have hcd2i : (cd2 : Int) < 4294967296 := by omega
                by_cases hj : j < ci
                · have hji : (j : Int) < (ci : Int) := by omega
                  obtain ⟨v, hv, hv6⟩ : ∃ v : Nat, ((l'.drop 17).getD (xs + j) 0).toNat = v ∧ v < 256 := ⟨_, rfl, UInt8.toNat_lt _⟩
                  have cv := HI6.out.1.src.blk.at (hb + 257 + (xs + j)) (by omega) ((HI6.out.2.1 _ (by omega)).trans ((HF4.out _ (by omega)).trans ((HV.out.1 (xs + j) (by omega)).trans (by rw [hv]))))
                  have hvi : (v : Int) < 256 := by omega
                  obtain ⟨p, hp, hp1, hp2, hp0⟩ : ∃ p : Nat, (2 : Int) ^ (7 - i) = (p : Int) ∧ 0 < p ∧ p ≤ 128 ∧ (i = 0 → p = 128) := by
                    refine ⟨2 ^ (7 - i), by push_cast; rfl, Nat.two_pow_pos _, ?_, fun h => by rw [h]⟩
                    exact Nat.pow_le_pow_right (by decide) (show 7 - i ≤ 7 by omega)
                  obtain ⟨bs, hbs, hbs6, hbs0⟩ : ∃ bs : Nat, (cd2 : Int) * (p : Int) % 4294967296 % 256 = (bs : Int) ∧ bs < 256 ∧ (cd2 = 0 → bs = 0) := by
                    have e : (cd2 : Int) * (p : Int) = ((cd2 * p : Nat) : Int) := by push_cast; rfl
                    refine ⟨cd2 * p % 4294967296 % 256, by rw [e]; omega, by omega, fun h => by rw [h, Nat.zero_mul]⟩
                  obtain ⟨lv, hlv⟩ : ∃ lv : Int, bits .or .u16 ((v : Int) * 256) (2 + (i : Int)) = lv := ⟨_, rfl⟩
                  have CIJ : Hid (cond → i = 0 ∧ j = 0 ∧ bs = 0 ∧ lv = 1794) := fun hc => by
                    obtain ⟨e1, e2⟩ := C18.out hc
                    have e3 := HXS.out
                    have hi0 : i = 0 := by
                      by_cases h : i = 0
                      · exact h
                      · rw [e1] at e3
                        have := T18_cnt i (by omega)
                        omega
                    subst hi0
                    rw [e1, T18_cnt0, T18_sum0] at e3
                    have hj0 : j = 0 := by omega
                    subst hj0
                    refine ⟨rfl, rfl, hbs0 ((HI6.out.2.2 hc).1 rfl rfl), ?_⟩
                    rw [← hlv, ← hv, e1, ← e3.1, T18_val]
                    exact lut_val
                  have hpi : (p : Int) ≤ 128 := by omega
                  have hbsi : (bs : Int) < 256 := by omega
                  have HVV := Lib.hid (And.intro hv hp0)
                  clear hv hp0 hbs0
                  go_wp2_with fail
                  go_loopg [18] p (fun g3 v18 wr3 => ∃ (k : Nat) (F7 : Nat → Value), v18 = .int .u8 (k : Int) ∧ k + g3 = p ∧ Hid (HW w b r a1 a2 base cap data F7 ((l'.drop 17).drop t) m9 nc wr3 ∧ (∀ c, c < hb + 1 ∨ hb + 257 ≤ c → F7 c = F4 c) ∧ (cond → 63 < k → F7 4212 = .int .u16 1794)))
                  case atStart => exact ⟨0, F6, rfl, by omega, HI6.out.1, HI6.out.2.1, fun hc h => absurd h (by decide)⟩
                  case round =>
                    obtain ⟨k, F7, rfl, hkg, HI7⟩ := hrel
                    clear cnn2 cv
                    by_cases hk : k < p
                    · have hki : (k : Int) < (p : Int) := by omega
                      have qk1 : decide (k < p) = true := by simp; omega
                      have qk2 : decide ((k : Int) < (p : Int)) = true := by simp; omega
                      obtain ⟨q, hq, hq6, hq0⟩ := or_u8 bs k hbs6 (by omega)
                      have hqi : (q : Int) < 256 := by omega
                      have cl := HI7.out.1.src.blk.cell (hb + 1 + q) (by omega)
                      have fl := HI7.out.1.src.blk.free (hb + 1 + q)
                      have HQ := Lib.hid hq0
                      clear hq0
                      go_wp2_with fail
                      go_roundg (gk - 1)
                      case measure => omega
                      case rel =>
                        refine ⟨k + 1, upd F7 (hb + 1 + q) (.int .u16 lv), by go_num, by omega, ?_, fun c hc => by rw [upd_ne _ _ _ _ (by omega)]; exact HI7.out.2.1 c hc, fun hc h63 => ?_⟩
                        · exact HI7.out.1.setB (by omega) (by omega) _
                        · obtain ⟨e1, e2⟩ := C18.out hc
                          obtain ⟨i1, i2, i3, i4⟩ := CIJ.out hc
                          have := HQ.out i3
                          by_cases e : k = 63
                          · rw [show (4212 : Nat) = hb + 1 + q by omega, upd_same, i4]
                          · rw [upd_ne _ _ _ _ (by omega)]
                            exact HI7.out.2.2 hc (by omega)
                    · have hkp : k = p := by omega
                      subst hkp
                      have qk1 : decide (k < k) = false := by simp
                      have qk2 : decide ((k : Int) < (k : Int)) = false := by simp
                      obtain ⟨c3, hc3, hc3b⟩ : ∃ c3 : Nat, ((cd2 : Int) + 1) % 4294967296 = (c3 : Int) ∧ c3 < 4294967296 := ⟨(cd2 + 1) % 4294967296, by omega, by omega⟩
                      go_wp2_with fail
                      go_roundg (gj - 1)
                      case measure => omega
                      case rel =>
                        refine ⟨j + 1, c3, F7, by go_num, by rw [hc3], by go_num, by omega, hc3b, HI7.out.1, HI7.out.2.1, fun hc => ⟨fun _ h => absurd h (by omega), fun _ => ?_⟩⟩
                        have := HVV.out.2 (CIJ.out hc).1
                        exact HI7.out.2.2 hc (by omega)
                · have hjc : j = ci := by omega
                  have hji : (ci : Int) ≤ (j : Int) := by omega
                  have qj1 : decide (j < ci) = false := by simp; omega
                  have qj2 : decide ((j : Int) < (ci : Int)) = false := by simp; omega
                  go_wp2_with fail
                  go_roundg (gi - 1)
                  case measure => omega
                  case rel =>
                    refine ⟨i + 1, cd2, F6, ?_, rfl, by go_num, by omega, hcd2, HI6.out.1, HI6.out.2.1, fun hc => ⟨fun h => absurd h (by omega), fun _ => (HI6.out.2.2 hc).2 ?_⟩⟩
                    · simp only [csum]
                      rw [HXS.out.1, HXS.out.2, hjc]
                      push_cast
                      rfl
                    · by_cases h : i = 0
                      · have e3 := HXS.out.2
                        rw [(C18.out hc).1, h, T18_cnt0] at e3
                        omega
                      · omega
            · obtain rfl : i = 8 := by omega
              have CN : Hid (∀ k, k < 16 → wr.cell? ⟨m9, 0 + k, none⟩ = some (nc k)) := fun k hk => by rw [Nat.zero_add]; exact HI5.out.1.nb.cell k hk
              clear hxs hsum hci6
              go_wp2_with (refine wpList_loadArr (g := m9) (o' := 0) ?_ arrT92 (.tmp 9) ?_ ?_ nc ?_ ?_; exact rfl; exact rfl; exact rfl; exact CN.out)
              go_loopg [19, 20, 189] 16 (fun g v19 v20 v189 wr' => ∃ (i : Nat) (z : Int) (F8 : Nat → Value), v19 = .int .i32 z ∧ v20 = .int .i32 (csum (cnt l') i : Int) ∧ v189 = .int .i64 (i : Int) ∧ i + g = 16 ∧ -2147483648 ≤ z ∧ z ≤ 2147483647 ∧ Hid (HW w b r a1 a2 base cap data F8 ((l'.drop 17).drop t) m9 nc wr' ∧ (∀ c, c < hb + 513 ∨ hb + 561 ≤ c → F8 c = F5 c) ∧ (cond → (i = 0 → z = 0) ∧ (1 ≤ i → F8 4661 = .int .i32 0 ∧ F8 4677 = .int .i32 0 ∧ F8 4693 = .int .i32 0))))
              case atStart => exact ⟨0, 0, F5, rfl, rfl, rfl, rfl, by decide, by decide, HI5.out.1, fun _ _ => rfl, fun _ => ⟨fun _ => rfl, fun h => absurd h (by decide)⟩⟩
              case round =>
                obtain ⟨i, z, F8, rfl, rfl, rfl, hik8, hz1, hz2, HI8⟩ := hrel
                by_cases hi16 : i < 16
                · have hi16i : (i : Int) < 16 := by omega
                  obtain ⟨n, hn, hn6⟩ : ∃ n : Nat, cnt l' i = n ∧ n < 256 := ⟨_, rfl, UInt8.toNat_lt _⟩
                  have hnc : nc i = .int .i32 (n : Int) := (HI.out.2.2.2 i hi16).trans (by rw [hn])
                  obtain ⟨sm, hsm⟩ : ∃ sm, csum (cnt l') i = sm := ⟨_, rfl⟩
                  have hsl := csum_le l' i
                  rw [hsm] at hsl ⊢
                  have hsi : (sm : Int) ≤ 4080 := by omega
                  have hni : (n : Int) < 256 := by omega
                  have k1 := HI8.out.1.src.blk.cell (hb + 513 + i) (by omega)
                  have k2 := HI8.out.1.src.blk.cell (hb + 529 + i) (by omega)
                  have k3 := HI8.out.1.src.blk.cell (hb + 545 + i) (by omega)
                  have l1 := HI8.out.1.src.blk.free (hb + 513 + i)
                  have l2 := HI8.out.1.src.blk.free (hb + 529 + i)
                  have l3 := HI8.out.1.src.blk.free (hb + 545 + i)
                  have HN := Lib.hid (And.intro hn hsm)
                  clear hn hsm hsl
                  have NX : Hid (∀ v1 v2 v3 : Value, (cond → i = 0 → n = 1 → z = 0 → sm = 0 → v1 = .int .i32 0 ∧ v2 = .int .i32 0 ∧ v3 = .int .i32 0) → (cond → i = 0 → n = 1) → (∀ c, c < hb + 513 ∨ hb + 561 ≤ c → (upd (upd (upd F8 (hb + 513 + i) v1) (hb + 529 + i) v2) (hb + 545 + i) v3) c = F5 c) ∧ (cond → (i + 1 = 0 → z = 0) ∧ (1 ≤ i + 1 → (upd (upd (upd F8 (hb + 513 + i) v1) (hb + 529 + i) v2) (hb + 545 + i) v3) 4661 = .int .i32 0 ∧ (upd (upd (upd F8 (hb + 513 + i) v1) (hb + 529 + i) v2) (hb + 545 + i) v3) 4677 = .int .i32 0 ∧ (upd (upd (upd F8 (hb + 513 + i) v1) (hb + 529 + i) v2) (hb + 545 + i) v3) 4693 = .int .i32 0))) := fun v1 v2 v3 hv0 hn1 => by
                    refine ⟨fun c hc => by rw [upd_ne _ _ _ _ (by omega), upd_ne _ _ _ _ (by omega), upd_ne _ _ _ _ (by omega)]; exact HI8.out.2.1 c hc, fun hc => ⟨fun h => absurd h (by omega), fun _ => ?_⟩⟩
                    have e2 := (C18.out hc).2
                    subst e2
                    by_cases h : i = 0
                    · have hs0 : sm = 0 := by rw [← HN.out.2, h]; rfl
                      obtain ⟨x1, x2, x3⟩ := hv0 hc h (hn1 hc h) ((HI8.out.2.2 hc).1 h) hs0
                      subst h
                      rw [show (4661 : Nat) = 4148 + 513 + 0 by rfl, show (4677 : Nat) = 4148 + 529 + 0 by rfl, show (4693 : Nat) = 4148 + 545 + 0 by rfl, upd_same, upd_ne _ (4148 + 545 + 0) (4148 + 529 + 0) _ (by decide), upd_same, upd_ne _ (4148 + 545 + 0) (4148 + 513 + 0) _ (by decide), upd_ne _ (4148 + 529 + 0) (4148 + 513 + 0) _ (by decide), upd_same]
                      exact ⟨x1, x2, x3⟩
                    · obtain ⟨x1, x2, x3⟩ := (HI8.out.2.2 hc).2 (by omega)
                      rw [upd_ne _ _ _ _ (by omega), upd_ne _ _ _ _ (by omega), upd_ne _ _ _ _ (by omega), upd_ne _ _ _ _ (by omega), upd_ne _ _ _ _ (by omega), upd_ne _ _ _ _ (by omega), upd_ne _ _ _ _ (by omega), upd_ne _ _ _ _ (by omega), upd_ne _ _ _ _ (by omega)]
                      exact ⟨x1, x2, x3⟩
                  have HN1 : Hid (cond → i = 0 → n = 1) := fun hc h => by
                    rw [← HN.out.1, (C18.out hc).1, h]; exact T18_cnt0
                  by_cases hn0 : n = 0
                  · have qn : ((n : Int) == 0) = true := by simp; omega
                    have HN2 : Hid (cond → i = 0 → False) := fun hc h => by have := HN1.out hc h; omega
                    go_wp2_with (refine wpList_index92 ?_ (.tmp 188) (.tmp 189) ?_ nc i ?_ ?_ hi16 hnc ?_; exact rfl; exact rfl; exact rfl; exact rfl)
                    go_roundg (gk - 1)
                    case measure => omega
                    case rel =>
                      refine ⟨i + 1, _, _, rfl, ?_, by go_num, by omega, ?_, ?_, ((HI8.out.1.setB (by omega) (by omega) _).setB (by omega) (by omega) _).setB (by omega) (by omega) _, (NX.out _ _ _ (fun hc h => (HN2.out hc h).elim) (fun hc h => (HN2.out hc h).elim)).1, fun hc => ⟨fun h => absurd h (by omega), fun _ => ((NX.out _ _ _ (fun hc h => (HN2.out hc h).elim) (fun hc h => (HN2.out hc h).elim)).2 hc).2 (by omega)⟩⟩
                      · simp only [csum]
                        rw [HN.out.1, HN.out.2, hn0]
                        rfl
                      · unfold wrap32; omega
                      · unfold wrap32; omega
                  · have qn : ((n : Int) == 0) = false := by simp; omega
                    go_wp2_with (refine wpList_index92 ?_ (.tmp 188) (.tmp 189) ?_ nc i ?_ ?_ hi16 hnc ?_; exact rfl; exact rfl; exact rfl; exact rfl)
                    go_roundg (gk - 1)
                    case measure => omega
                    case rel =>
                      refine ⟨i + 1, _, _, rfl, ?_, by go_num, by omega, ?_, ?_, ((HI8.out.1.setB (by omega) (by omega) _).setB (by omega) (by omega) _).setB (by omega) (by omega) _, (NX.out _ _ _ ?_ HN1.out).1, fun hc => ⟨fun h => absurd h (by omega), fun _ => ((NX.out _ _ _ ?_ HN1.out).2 hc).2 (by omega)⟩⟩
                      · simp only [csum]
                        rw [HN.out.1, HN.out.2]
                        push_cast
                        rfl
                      · unfold wrap32; omega
                      · unfold wrap32; omega
                      · intro hc h1 h2 h3 h4
                        subst h2 h3 h4
                        exact ⟨rfl, by rw [wrap_one], rfl⟩
                      · intro hc h1 h2 h3 h4
                        subst h2 h3 h4
                        exact ⟨rfl, by rw [wrap_one], rfl⟩
                · obtain rfl : i = 16 := by omega
                  have FIN : Hid (DHRel cond w b r a1 a2 base cap data f R kk (.int .i64 (mr : Int)) wr) := by
                    have hlen : (l'.drop (17 + t)).length = mr := by rw [List.length_drop, HX.out.2.2.2.2]; omega
                    have eF : ∀ c, (c < 4 ∨ 4102 ≤ c) → c < 4148 → F8 c = F c := fun c h1 h2 => by
                      rw [HI8.out.2.1 c (by omega), HI5.out.2.1 c (by omega), HF4.out c (by omega)]
                      by_cases h3 : c = 4102
                      · subst h3; rw [HV.out.2.2, HX.out.2.2.1.hu]
                      · rw [HV.out.2.1 c (by omega), HI.out.2.2.1 c (by omega), H1.out.2.2.2.1 c (by omega)]
                    refine ⟨l'.drop (17 + t), F8, by rw [hlen], by rw [hlen]; omega, by rw [hlen]; have := HX.out.1; rw [HX.out.2.2.2.2] at this; omega, ?_, ⟨?_, ?_, ?_, fun k hk => ?_, HI8.out.1.chg⟩, fun hc => .inr ?_⟩
                    · have := hRun_next kk l' (by rw [HX.out.2.2.2.2]; omega) (by rw [H1.out.2.2.2.2.2, HT.out, HX.out.2.2.2.2]; omega)
                      rw [HT.out] at this
                      rw [← this]
                      exact HX.out.2.1
                    · have := HI8.out.1.src
                      rwa [List.drop_drop] at this
                    · rw [eF _ (by omega) (by omega), HX.out.2.2.1.hu]
                    · rw [eF _ (by omega) (by omega), HX.out.2.2.1.hbl]
                    · rw [eF _ (by omega) (by omega)]; exact HX.out.2.2.1.lo k hk
                    · obtain ⟨e1, e2⟩ := C18.out hc
                      have et := HT.out
                      rw [e1, T18_sum] at et
                      subst et
                      obtain ⟨x1, x2, x3⟩ := (HI8.out.2.2 hc).2 (by omega)
                      refine ⟨by rw [e1]; rfl, ?_, ?_, ?_, x1, x2, x3⟩
                      · rw [HI8.out.2.1 _ (by omega), HI5.out.2.1 _ (by omega), HF4.out _ (by omega), HV.out.2.1 _ (by omega)]
                        have := HI.out.2.1
                        rw [e1, T18_sum, e2] at this
                        exact this
                      · rw [HI8.out.2.1 _ (by omega)]
                        exact (HI5.out.2.2 hc).2 (by omega)
                      · rw [HI8.out.2.1 _ (by omega), HI5.out.2.1 _ (by omega), HF4.out _ (by omega)]
                        have := HV.out.1 0 (by omega)
                        rw [e1, T18_val, e2] at this
                        exact this
                  have hkm : mr < kk := by have := HX.out.1; rw [HX.out.2.2.2.2] at this; omega
                  clear HX
                  go_wp2_with fail
                  go_roundg kk
                  case measure => omega
                  case rel => exact FIN.out
end Go.Proofs.YtkkplbfbhmlnoaaDoor
