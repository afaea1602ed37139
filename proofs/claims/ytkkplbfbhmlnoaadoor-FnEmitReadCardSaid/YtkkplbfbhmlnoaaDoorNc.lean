/- (*decoder).decodeBits: the number that it reads. Conditions: those of BSt; fewer than 8 bits are in, 1 to 16 are wanted. -/
import Derived.Test.YtkkplbfbhmlnoaaDoorNb
namespace Go.Proofs.YtkkplbfbhmlnoaaDoor
open Go.RowKit

theorem mask_out (A k n : Nat) (hA : A < 4294967296) (hkn : n ≤ k) (hk : k ≤ 32) (hn : n ≤ 16) :
    bits .and .u32 ((A : Int) / 2 ^ min (((k : Int) - (n : Int)) % 4294967296).toNat 32) ((2 ^ n - 1) % 4294967296) = ((A / 2 ^ (k - n) % 2 ^ n : Nat) : Int) := by
  have e1 : min (((k : Int) - (n : Int)) % 4294967296).toNat 32 = k - n := by omega
  have hp : 2 ^ n ≤ 2 ^ 16 := Nat.pow_le_pow_right (by decide) hn
  have h1 : 0 < 2 ^ n := Nat.two_pow_pos n
  have e2 : ((2 : Int) ^ n - 1) % 4294967296 = 2 ^ n - 1 := by
    have : ((2 : Int) ^ n) = ((2 ^ n : Nat) : Int) := by push_cast; rfl
    rw [this]
    have h2 : (2 ^ 16 : Nat) = 65536 := by decide
    omega
  have e3 : (A : Int) / 2 ^ (k - n) = ((A / 2 ^ (k - n) : Nat) : Int) := by push_cast; rfl
  have hlt : A / 2 ^ (k - n) < 4294967296 := Nat.lt_of_le_of_lt (Nat.div_le_self _ _) hA
  rw [e1, e2, e3]
  generalize A / 2 ^ (k - n) = d at *
  rw [bits_mask .u32 32 (by decide) (fun x h0 h1 => by rw [IntKind.wrap_u32]; omega) n (by omega) _ (by omega) (by omega)]
  push_cast
  rfl

theorem left_lt (rest : List UInt8) (k A : Nat) : (left rest k A).2 < 2 ^ (left rest k A).1 := by
  have h1 := strm_lt _ rest (Nat.le_refl _)
  have h2 : A % 2 ^ k < 2 ^ k := Nat.mod_lt _ (Nat.two_pow_pos _)
  unfold left
  simp only [Nat.pow_add]
  calc A % 2 ^ k * 2 ^ (strm rest).1 + (strm rest).2 < A % 2 ^ k * 2 ^ (strm rest).1 + 2 ^ (strm rest).1 := by omega
    _ = (A % 2 ^ k + 1) * 2 ^ (strm rest).1 := by rw [Nat.add_mul, Nat.one_mul]
    _ ≤ 2 ^ k * 2 ^ (strm rest).1 := Nat.mul_le_mul_right _ (by omega)

/-- The first n bits of what is left. -/
theorem left_head (rest : List UInt8) (k A n : Nat) (hn : n ≤ k) : A / 2 ^ (k - n) % 2 ^ n = (left rest k A).2 / 2 ^ ((left rest k A).1 - n) := by
  have h1 := strm_lt _ rest (Nat.le_refl _)
  unfold left
  simp only []
  rw [show k + (strm rest).1 - n = (strm rest).1 + (k - n) by omega, Nat.pow_add, ← Nat.div_div_eq_div_mul, Nat.add_comm (_ * _), Nat.add_mul_div_right _ _ (Nat.two_pow_pos _), Nat.div_eq_of_lt h1, Nat.zero_add]
  have e : (2 : Nat) ^ k = 2 ^ (k - n) * 2 ^ n := by rw [← Nat.pow_add]; congr 1; omega
  rw [e, Nat.mod_mul_right_div_self]
theorem left_tail (rest : List UInt8) (k A n : Nat) (hn : n ≤ k) : left rest (k - n) A = ((left rest k A).1 - n, (left rest k A).2 % 2 ^ ((left rest k A).1 - n)) := by
  have h1 := strm_lt _ rest (Nat.le_refl _)
  unfold left
  simp only [Prod.mk.injEq]
  refine ⟨by omega, ?_⟩
  rw [show k + (strm rest).1 - n = (k - n) + (strm rest).1 by omega, Nat.pow_add]
  have e : (2 : Nat) ^ k = 2 ^ (k - n) * 2 ^ n := by rw [← Nat.pow_add]; congr 1; omega
  have e2 : A % 2 ^ (k - n) = A % 2 ^ k % 2 ^ (k - n) := by rw [e]; exact (Nat.mod_mul_right_mod _ _ _).symm
  rw [e2]
  generalize A % 2 ^ k = p
  rw [Nat.mul_comm (2 ^ (k - n)), Nat.mod_mul, Nat.mul_add_mod_self_right, Nat.mod_eq_of_lt h1, Nat.add_comm (p * _), Nat.add_mul_div_right _ _ (Nat.two_pow_pos _), Nat.div_eq_of_lt h1, Nat.zero_add, Nat.mul_comm (2 ^ (strm rest).1)]
  omega

def DecPost (w : World) (b r : Nat) (a1 a2 : Addr) (base : Option Addr) (cap : Nat) (data : List UInt8) (f : Nat → Value) (L X n : Nat) (e : Ending) (w' : World) : Prop :=
  ∃ f', Chg (BR b r) w w' ∧ (∀ c, 4103 ≤ c → f' c = f c) ∧
    ((n ≤ L ∧ ∃ rest' k' A' m', e = .returned (.tuple #[.int .u32 ((X / 2 ^ (L - n) : Nat) : Int), .nilIface]) ∧ BSt w' b r a1 a2 base cap data f' rest' k' A' m' ∧ k' < 8 ∧ left rest' k' A' = (L - n, X % 2 ^ (L - n))) ∨
     (L < n ∧ ∃ s, e = .returned (.tuple #[.int .u32 0, .iface 103 (.string s)])))

/-- Behind the bits that are taken out. -/
theorem dec_done {w W : World} {b r : Nat} {a1 a2 : Addr} {base : Option Addr} {cap : Nat} {data : List UInt8} {f F : Nat → Value} {rest : List UInt8} {k A m n L X : Nat} (S : BSt W b r a1 a2 base cap data F rest k A m) (hkn : n ≤ k) (hk8 : k < n + 8) (hn : n ≤ 16) (hL : left rest k A = (L, X))
    (hC : Chg (BR b r) w W) (hF : ∀ c, 4103 ≤ c → F c = f c) (q : Nat) (v vk vm : Int) (hv : v = ((A / 2 ^ (k - n) % 2 ^ n : Nat) : Int)) (hvk : vk = ((k - n : Nat) : Int)) (hvm : vm = ((m / 2 ^ n : Nat) : Int)) :
    DecPost w b r a1 a2 base cap data f L X n (.returned (.tuple #[.int .u32 v, .nilIface])) (((W.drewN q).setCell ⟨b, 3, none⟩ (.int .i32 vk)).setCell ⟨b, 2, none⟩ (.int .u32 vm)) := by
  refine ⟨_, (((hC.drewN q).setCell (p := ⟨b, 3, none⟩) (fun _ => .inl rfl) _).setCell (p := ⟨b, 2, none⟩) (fun _ => .inl rfl) _), fun c hc => by rw [upd_ne _ _ _ _ (by omega), upd_ne _ _ _ _ (by omega)]; exact hF c hc, .inl ⟨?_, rest, k - n, A, m / 2 ^ n, ?_,
    ⟨((S.src.drewN q).set (.inl (by decide)) (by decide) _).set (.inl (by decide)) (by decide) _, by rw [upd_ne _ _ _ _ (by decide), upd_ne _ _ _ _ (by decide)]; exact S.ha, by rw [upd_same, hvm], by rw [upd_ne _ _ _ _ (by decide), upd_same, hvk], S.alt, Nat.lt_of_le_of_lt (Nat.div_le_self _ _) S.mlt⟩, by omega, ?_⟩⟩
  · have h1 : (left rest k A).1 = L := by rw [hL]
    unfold left at h1
    simp only [] at h1
    omega
  · rw [hv, left_head rest k A n hkn, hL]
  · rw [left_tail rest k A n hkn, hL]

set_option maxRecDepth 100000 in
set_option maxHeartbeats 4000000 in
theorem decode_any (b r : Nat) (a1 a2 : Addr) (base : Option Addr) (cap : Nat) (data : List UInt8) (w : World) (f : Nat → Value) (rest : List UInt8) (k A m n L X : Nat) (h : BSt w b r a1 a2 base cap data f rest k A m) (hk8 : k < 8) (hL : left rest k A = (L, X)) (hn : n ≤ 16) :
    Calls Tryd.prog 33 #[.pointer (some ⟨b, 0, none⟩), .int .i32 (n : Int)] w (DecPost w b r a1 a2 base cap data f L X n) := by
  have hni : (n : Int) ≤ 16 := by omega
  by_cases hkn : k < n
  · have EN := Lib.hid (ensure_any b r a1 a2 base cap data w f rest k A m n h hkn hn)
    have ck := h.src.blk.at 3 (by decide) h.hk
    have d1 : decide (k < n) = true := by simp; omega
    have hk8i : (k : Int) < 8 := by omega
    clear h hk8 hkn
    go_enter Tryd.func33, Tryd.ntmps33
    go_wp2_with fail
    refine EN.out.mono ?_
    clear EN ck d1 hk8i
    rintro e w1 ⟨F, hC, hF, ⟨rest1, k1, A1, m1, rfl, S, hk1, hk2, hL1, _⟩ | ⟨hlt, s, rfl, _⟩⟩
    · have FIN : Hid (∀ q v vk vm, v = ((A1 / 2 ^ (k1 - n) % 2 ^ n : Nat) : Int) → vk = ((k1 - n : Nat) : Int) → vm = ((m1 / 2 ^ n : Nat) : Int) → DecPost w b r a1 a2 base cap data f L X n (.returned (.tuple #[.int .u32 v, .nilIface])) (((w1.drewN q).setCell ⟨b, 3, none⟩ (.int .i32 vk)).setCell ⟨b, 2, none⟩ (.int .u32 vm))) :=
        fun q v vk vm h1 h2 h3 => dec_done S hk1 hk2 hn (by rw [hL1, hL]) hC hF q v vk vm h1 h2 h3
      have ca := S.src.blk.at 1 (by decide) S.ha
      have cm := S.src.blk.at 2 (by decide) S.hm
      have ck := S.src.blk.at 3 (by decide) S.hk
      have fm := S.src.blk.free 2
      have fk := S.src.blk.free 3
      have hk1i : (k1 : Int) < 24 := by omega
      have hA2 : (A1 : Int) < 4294967296 := by have := S.alt; omega
      have hm2 : (m1 : Int) < 4294967296 := by have := S.mlt; omega
      have HK := Lib.hid (And.intro hk1 (And.intro hk2 S.alt))
      clear S hk1 hk2 hL1 hC hF hL
      go_wp2_with fail
      go_quiet (fail)
      go_wp2_with fail
      go_ret2
      refine FIN.out _ _ _ _ (mask_out A1 k1 n HK.out.2.2 HK.out.1 (by have := HK.out.2.1; omega) hn) (by have := HK.out.1; omega) (by push_cast; rfl)
    · have FIN : Hid (DecPost w b r a1 a2 base cap data f L X n (.returned (.tuple #[.int .u32 0, .iface 103 (.string s)])) w1) :=
        ⟨F, hC, hF, .inr ⟨by rw [hL] at hlt; exact hlt, s, rfl⟩⟩
      clear hC hF hlt hL
      go_wp2_with fail
      go_ret2
      exact FIN.out
  · have FIN : Hid (∀ q v vk vm, v = ((A / 2 ^ (k - n) % 2 ^ n : Nat) : Int) → vk = ((k - n : Nat) : Int) → vm = ((m / 2 ^ n : Nat) : Int) → DecPost w b r a1 a2 base cap data f L X n (.returned (.tuple #[.int .u32 v, .nilIface])) (((w.drewN q).setCell ⟨b, 3, none⟩ (.int .i32 vk)).setCell ⟨b, 2, none⟩ (.int .u32 vm))) :=
      fun q v vk vm h1 h2 h3 => dec_done h (by omega) (by omega) hn hL (Chg.refl _ w) (fun _ _ => rfl) q v vk vm h1 h2 h3
    have ca := h.src.blk.at 1 (by decide) h.ha
    have cm := h.src.blk.at 2 (by decide) h.hm
    have ck := h.src.blk.at 3 (by decide) h.hk
    have fm := h.src.blk.free 2
    have fk := h.src.blk.free 3
    have hk1i : (k : Int) < 24 := by omega
    have hA2 : (A : Int) < 4294967296 := by have := h.alt; omega
    have hm2 : (m : Int) < 4294967296 := by have := h.mlt; omega
    have d1 : decide (k < n) = false := by simp; omega
    have HK := Lib.hid (And.intro hkn h.alt)
    clear h hk8 hkn hL
    go_enter Tryd.func33, Tryd.ntmps33
    go_wp2_with fail
    go_quiet (fail)
    go_wp2_with fail
    go_ret2
    refine FIN.out _ _ _ _ (mask_out A k n HK.out.2 (by have := HK.out.1; omega) (by omega) hn) (by have := HK.out.1; omega) (by push_cast; rfl)
end Go.Proofs.YtkkplbfbhmlnoaaDoor
