/- (*decoder).receiveExtend: the number that it reads. Conditions: those of BSt; fewer than 8 bits are in, at most 16 are wanted. -/
import Derived.Test.YtkkplbfbhmlnoaaDoorNc
namespace Go.Proofs.YtkkplbfbhmlnoaaDoor
open Go.RowKit

/-- EXTEND. -/
def sgn (n v : Nat) : Int := if 0 < n ∧ v < 2 ^ (n - 1) then (v : Int) - (2 ^ n - 1) else (v : Int)

theorem and_zero (y : Int) : bits .and .i32 y 0 = 0 := by
  simp [bits]
  rfl
theorem ext_neg : ∀ n : Nat, n < 17 → bits .and .i32 (-1) (wrap32 (wrap32 (-(2 : Int) ^ n) + 1)) = 1 - (2 : Int) ^ n := by decide +kernel
theorem ext_pos : ∀ n : Nat, n < 17 → bits .and .i32 0 (wrap32 (wrap32 (-(2 : Int) ^ n) + 1)) = 0 := by decide +kernel
theorem ext_val (x n : Nat) (hn1 : 1 ≤ n) (hn : n ≤ 16) (hx : x < 2 ^ n) :
    wrap32 ((x : Int) + bits .and .i32 (wrap32 ((x : Int) / 2 ^ (n - 1) - 1)) (wrap32 (wrap32 (-2 ^ n) + 1))) = sgn n x := by
  obtain ⟨j, rfl⟩ : ∃ j, n = j + 1 := ⟨n - 1, by omega⟩
  have hp : (2 : Nat) ^ (j + 1) = 2 ^ j * 2 := Nat.pow_succ _ _
  have h16 : 2 ^ (j + 1) ≤ 2 ^ 16 := Nat.pow_le_pow_right (by decide) hn
  have h65 : (2 : Nat) ^ 16 = 65536 := by decide
  have hj : 0 < 2 ^ j := Nat.two_pow_pos j
  have e1 : (x : Int) / 2 ^ (j + 1 - 1) = ((x / 2 ^ j : Nat) : Int) := by rw [Nat.add_sub_cancel]; push_cast; rfl
  have e2 : ((2 : Int) ^ (j + 1)) = ((2 ^ (j + 1) : Nat) : Int) := by push_cast; rfl
  unfold sgn
  by_cases h : x < 2 ^ j
  · rw [e1, Nat.div_eq_of_lt h, show wrap32 (((0 : Nat) : Int) - 1) = -1 by simp [wrap32], ext_neg _ (by omega), if_pos ⟨by omega, by rw [Nat.add_sub_cancel]; exact h⟩, e2]
    simp only [wrap32]
    omega
  · have hd : x / 2 ^ j = 1 := by
      rw [Nat.div_eq_iff hj]
      omega
    rw [e1, hd, show wrap32 (((1 : Nat) : Int) - 1) = 0 by simp [wrap32], ext_pos _ (by omega), if_neg (by rw [Nat.add_sub_cancel]; exact fun e => h e.2)]
    simp only [wrap32]
    omega

theorem mask32 (A k2 n : Nat) (hA : A < 4294967296) (hn : n ≤ 16) : bits .and .i32 (wrap32 ((A : Int) / 2 ^ k2)) (((2 ^ n : Nat) : Int) - 1) = ((A / 2 ^ k2 % 2 ^ n : Nat) : Int) := by
  have e3 : (A : Int) / 2 ^ k2 = ((A / 2 ^ k2 : Nat) : Int) := by push_cast; rfl
  have hlt : A / 2 ^ k2 < 4294967296 := Nat.lt_of_le_of_lt (Nat.div_le_self _ _) hA
  rw [e3]
  generalize A / 2 ^ k2 = d at *
  have hp : 2 ^ n ≤ 2 ^ 16 := Nat.pow_le_pow_right (by decide) hn
  have h65 : (2 : Nat) ^ 16 = 65536 := by decide
  have h1 : 0 < 2 ^ n := Nat.two_pow_pos n
  have e4 : ((2 ^ n : Nat) : Int) - 1 = ((2 ^ n - 1 : Nat) : Int) := by omega
  have e5 : BitVec.ofInt IntKind.i32.bits (wrap32 (d : Int)) = BitVec.ofNat IntKind.i32.bits d := by
    show BitVec.ofInt 32 (wrap32 (d : Int)) = BitVec.ofNat 32 d
    apply BitVec.eq_of_toNat_eq
    simp only [BitVec.toNat_ofInt, BitVec.toNat_ofNat, wrap32]
    omega
  have e6 : IntKind.i32.bits = 32 := rfl
  rw [e4]
  simp only [bits, e5, BitVec.ofInt_natCast, BitVec.toNat_and, BitVec.toNat_ofNat]
  rw [e6, Nat.mod_eq_of_lt (show 2 ^ n - 1 < 2 ^ 32 by omega), Nat.mod_eq_of_lt (show d < 2 ^ 32 by omega), Nat.and_two_pow_sub_one_eq_mod]
  have := Nat.mod_lt d h1
  rw [IntKind.wrap_i32]
  omega

def RecPost (w : World) (b r : Nat) (a1 a2 : Addr) (base : Option Addr) (cap : Nat) (data : List UInt8) (f : Nat → Value) (L X n : Nat) (e : Ending) (w' : World) : Prop :=
  ∃ f', Chg (BR b r) w w' ∧ (∀ c, 4103 ≤ c → f' c = f c) ∧
    ((n ≤ L ∧ ∃ rest' k' A' m', e = .returned (.tuple #[.int .i32 (sgn n (X / 2 ^ (L - n))), .nilIface]) ∧ BSt w' b r a1 a2 base cap data f' rest' k' A' m' ∧ k' < 8 ∧ left rest' k' A' = (L - n, X % 2 ^ (L - n))) ∨
     (L < n ∧ ∃ s, e = .returned (.tuple #[.int .i32 0, .iface 103 (.string s)])))

theorem rec_done {w W : World} {b r : Nat} {a1 a2 : Addr} {base : Option Addr} {cap : Nat} {data : List UInt8} {f F : Nat → Value} {rest : List UInt8} {k A m n L X : Nat} (S : BSt W b r a1 a2 base cap data F rest k A m) (hkn : n ≤ k) (hk8 : k < n + 8) (hn : n ≤ 16) (hL : left rest k A = (L, X))
    (hC : Chg (BR b r) w W) (hF : ∀ c, 4103 ≤ c → F c = f c) (q : Nat) (v vk vm : Int) (hv : v = sgn n (A / 2 ^ (k - n) % 2 ^ n)) (hvk : vk = ((k - n : Nat) : Int)) (hvm : vm = ((m / 2 ^ n : Nat) : Int)) :
    RecPost w b r a1 a2 base cap data f L X n (.returned (.tuple #[.int .i32 v, .nilIface])) (((W.setCell ⟨b, 3, none⟩ (.int .i32 vk)).setCell ⟨b, 2, none⟩ (.int .u32 vm)).drewN q) := by
  refine ⟨_, (((hC.setCell (p := ⟨b, 3, none⟩) (fun _ => .inl rfl) _).setCell (p := ⟨b, 2, none⟩) (fun _ => .inl rfl) _).drewN q), fun c hc => by rw [upd_ne _ _ _ _ (by omega), upd_ne _ _ _ _ (by omega)]; exact hF c hc, .inl ⟨?_, rest, k - n, A, m / 2 ^ n, ?_,
    ⟨((S.src.set (.inl (by decide)) (by decide) _).set (.inl (by decide)) (by decide) _).drewN q, by rw [upd_ne _ _ _ _ (by decide), upd_ne _ _ _ _ (by decide)]; exact S.ha, by rw [upd_same, hvm], by rw [upd_ne _ _ _ _ (by decide), upd_same, hvk], S.alt, Nat.lt_of_le_of_lt (Nat.div_le_self _ _) S.mlt⟩, by omega, ?_⟩⟩
  · have h1 : (left rest k A).1 = L := by rw [hL]
    unfold left at h1
    simp only [] at h1
    omega
  · rw [hv, left_head rest k A n hkn, hL]
  · rw [left_tail rest k A n hkn, hL]

theorem pow_le (n : Nat) (hn : n ≤ 16) : 2 ^ n ≤ 65536 := by
  have hp : 2 ^ n ≤ 2 ^ 16 := Nat.pow_le_pow_right (by decide) hn
  have h65 : (2 : Nat) ^ 16 = 65536 := by decide
  omega
theorem pow_wrap (n : Nat) (hn : n ≤ 16) : wrap32 (2 ^ n) = ((2 ^ n : Nat) : Int) := by
  have h1 := pow_le n hn
  have e2 : ((2 : Int) ^ n) = ((2 ^ n : Nat) : Int) := by push_cast; rfl
  rw [e2]
  generalize 2 ^ n = d at *
  simp only [wrap32]
  omega
theorem lt_cast {x : Nat} (h : x < 65536) : (x : Int) < 65536 := by omega
theorem div_pow (m n : Nat) : (m : Int) / 2 ^ n = ((m / 2 ^ n : Nat) : Int) := by push_cast; rfl

set_option maxRecDepth 100000 in
set_option maxHeartbeats 4000000 in
theorem receive_any (b r : Nat) (a1 a2 : Addr) (base : Option Addr) (cap : Nat) (data : List UInt8) (w : World) (f : Nat → Value) (rest : List UInt8) (k A m n L X : Nat) (h : BSt w b r a1 a2 base cap data f rest k A m) (hk8 : k < 8) (hL : left rest k A = (L, X)) (hn : n ≤ 16) :
    Calls Tryd.prog 39 #[.pointer (some ⟨b, 0, none⟩), .int .u8 (n : Int)] w (RecPost w b r a1 a2 base cap data f L X n) := by
  have hni : (n : Int) ≤ 16 := by omega
  by_cases hkn : k < n
  · have EN := Lib.hid (ensure_any b r a1 a2 base cap data w f rest k A m n h hkn hn)
    have ck := h.src.blk.at 3 (by decide) h.hk
    have d1 : decide (k < n) = true := by simp; omega
    have hpos : 1 ≤ n := by omega
    have hk8i : (k : Int) < 8 := by omega
    clear h hk8 hkn
    go_enter Tryd.func39, Tryd.ntmps39
    go_wp2_with fail
    refine EN.out.mono ?_
    clear EN ck d1 hk8i
    rintro e w1 ⟨F, hC, hF, ⟨rest1, k1, A1, m1, rfl, S, hk1, hk2, hL1, _⟩ | ⟨hlt, s, rfl, _⟩⟩
    · have FIN : Hid (∀ q v vk vm, v = sgn n (A1 / 2 ^ (k1 - n) % 2 ^ n) → vk = ((k1 - n : Nat) : Int) → vm = ((m1 / 2 ^ n : Nat) : Int) → RecPost w b r a1 a2 base cap data f L X n (.returned (.tuple #[.int .i32 v, .nilIface])) (((w1.setCell ⟨b, 3, none⟩ (.int .i32 vk)).setCell ⟨b, 2, none⟩ (.int .u32 vm)).drewN q)) :=
        fun q v vk vm h1 h2 h3 => rec_done S hk1 hk2 hn (by rw [hL1, hL]) hC hF q v vk vm h1 h2 h3
      have HP := Lib.hid hpos
      have ca := S.src.blk.at 1 (by decide) S.ha
      have cm := S.src.blk.at 2 (by decide) S.hm
      have ck := S.src.blk.at 3 (by decide) S.hk
      have fm := S.src.blk.free 2
      have fk := S.src.blk.free 3
      have hk1i : (k1 : Int) < 24 := by omega
      have hA2 : (A1 : Int) < 4294967296 := by have := S.alt; omega
      have hm2 : (m1 : Int) < 4294967296 := by have := S.mlt; omega
      have HK := Lib.hid (And.intro hk1 S.alt)
      obtain ⟨k2, hk2⟩ : ∃ k2 : Nat, k2 = k1 - n := ⟨_, rfl⟩
      have hk2i : (k1 : Int) - (n : Int) = (k2 : Int) := by omega
      obtain ⟨s, hs⟩ : ∃ s : Nat, s = 2 ^ n := ⟨_, rfl⟩
      have hs1 : wrap32 (2 ^ n) = (s : Int) := by rw [hs]; exact pow_wrap n hn
      have hs2 : (s : Int) ≤ 65536 := by have := pow_le n hn; omega
      have hs3 : 1 ≤ (s : Int) := by have := Nat.two_pow_pos n; omega
      obtain ⟨x, hx⟩ : ∃ x : Nat, x = A1 / 2 ^ k2 % 2 ^ n := ⟨_, rfl⟩
      have hm3 : bits .and .i32 (wrap32 ((A1 : Int) / 2 ^ k2)) ((s : Int) - 1) = (x : Int) := by rw [hs, hx]; exact mask32 A1 k2 n HK.out.2 hn
      have hxs : x < 2 ^ n := by rw [hx]; exact Nat.mod_lt _ (Nat.two_pow_pos n)
      have hxi : (x : Int) < 65536 := lt_cast (Nat.lt_of_lt_of_le hxs (pow_le n hn))
      obtain ⟨n1, hn1⟩ : ∃ n1 : Nat, ((n : Int) - 1) % 256 = (n1 : Int) := ⟨n - 1, by omega⟩
      have hn1b : (n1 : Int) < 16 := by omega
      have HV := Lib.hid (And.intro hxs (And.intro hx hk2))
      clear hxs hx hk2 hs hpos
      clear S hk1 hk2 hL1 hC hF hL
      go_wp2_with fail
      go_quiet (fail)
      go_wp2_with fail
      go_ret2
      refine FIN.out _ _ _ _ ?_ (by rw [HV.out.2.2]) (div_pow _ _)
      rw [← HV.out.2.2, ← HV.out.2.1]
      exact ext_val x n HP.out hn HV.out.1
    · have FIN : Hid (RecPost w b r a1 a2 base cap data f L X n (.returned (.tuple #[.int .i32 0, .iface 103 (.string s)])) w1) :=
        ⟨F, hC, hF, .inr ⟨by rw [hL] at hlt; exact hlt, s, rfl⟩⟩
      clear hC hF hlt hL hpos
      go_wp2_with fail
      go_ret2
      exact FIN.out
  · have FIN : Hid (∀ q v vk vm, v = sgn n (A / 2 ^ (k - n) % 2 ^ n) → vk = ((k - n : Nat) : Int) → vm = ((m / 2 ^ n : Nat) : Int) → RecPost w b r a1 a2 base cap data f L X n (.returned (.tuple #[.int .i32 v, .nilIface])) (((w.setCell ⟨b, 3, none⟩ (.int .i32 vk)).setCell ⟨b, 2, none⟩ (.int .u32 vm)).drewN q)) :=
      fun q v vk vm h1 h2 h3 => rec_done h (by omega) (by omega) hn hL (Chg.refl _ w) (fun _ _ => rfl) q v vk vm h1 h2 h3
    have ca := h.src.blk.at 1 (by decide) h.ha
    have cm := h.src.blk.at 2 (by decide) h.hm
    have ck := h.src.blk.at 3 (by decide) h.hk
    have fm := h.src.blk.free 2
    have fk := h.src.blk.free 3
    have hk1i : (k : Int) < 24 := by omega
    have hA2 : (A : Int) < 4294967296 := by have := h.alt; omega
    have hm2 : (m : Int) < 4294967296 := by have := h.mlt; omega
    by_cases hpos : 1 ≤ n
    · have HP := Lib.hid hpos
      have d1 : decide (k < n) = false := by simp; omega
      have HK := Lib.hid (And.intro hkn h.alt)
      have hk1 : n ≤ k := by omega
      obtain ⟨k2, hk2⟩ : ∃ k2 : Nat, k2 = k - n := ⟨_, rfl⟩
      have hk2i : (k : Int) - (n : Int) = (k2 : Int) := by omega
      obtain ⟨s, hs⟩ : ∃ s : Nat, s = 2 ^ n := ⟨_, rfl⟩
      have hs1 : wrap32 (2 ^ n) = (s : Int) := by rw [hs]; exact pow_wrap n hn
      have hs2 : (s : Int) ≤ 65536 := by have := pow_le n hn; omega
      have hs3 : 1 ≤ (s : Int) := by have := Nat.two_pow_pos n; omega
      obtain ⟨x, hx⟩ : ∃ x : Nat, x = A / 2 ^ k2 % 2 ^ n := ⟨_, rfl⟩
      have hm3 : bits .and .i32 (wrap32 ((A : Int) / 2 ^ k2)) ((s : Int) - 1) = (x : Int) := by rw [hs, hx]; exact mask32 A k2 n HK.out.2 hn
      have hxs : x < 2 ^ n := by rw [hx]; exact Nat.mod_lt _ (Nat.two_pow_pos n)
      have hxi : (x : Int) < 65536 := lt_cast (Nat.lt_of_lt_of_le hxs (pow_le n hn))
      obtain ⟨n1, hn1⟩ : ∃ n1 : Nat, ((n : Int) - 1) % 256 = (n1 : Int) := ⟨n - 1, by omega⟩
      have hn1b : (n1 : Int) < 16 := by omega
      have HV := Lib.hid (And.intro hxs (And.intro hx hk2))
      clear hxs hx hk2 hs hpos
      clear h hk8 hkn hL hk1
      go_enter Tryd.func39, Tryd.ntmps39
      go_wp2_with fail
      go_quiet (fail)
      go_wp2_with fail
      go_ret2
      refine FIN.out _ _ _ _ ?_ (by rw [HV.out.2.2]) (div_pow _ _)
      rw [← HV.out.2.2, ← HV.out.2.1]
      exact ext_val x n HP.out hn HV.out.1
    · obtain rfl : n = 0 := by omega
      have d0 : decide ((k : Int) < 0) = false := by simp
      clear h hk8 hkn hL
      go_enter Tryd.func39, Tryd.ntmps39
      go_wp2_with fail
      go_quiet (fail)
      go_wp2_with fail
      go_ret2
      refine FIN.out _ _ _ _ ?_ rfl (by simp)
      rw [and_zero, and_zero]
      simp [sgn, wrap32, Nat.mod_one]
end Go.Proofs.YtkkplbfbhmlnoaaDoor
