/- (*spec.bits).number and signed: what they read. Conditions: those of SB; at most 16 bits. -/
import Derived.Test.YtkkplbfbhmlnoaaDoorSa
namespace Go.Proofs.YtkkplbfbhmlnoaaDoor
open Go.RowKit

def NumPost (w : World) (g : Nat) (base : Option Addr) (cap : Nat) (data : List UInt8) (L X n : Nat) (e : Ending) (w' : World) : Prop :=
  Chg (fun k => k = g) w w' ∧ ∃ p' u' fl', SB w' g base cap data p' u' fl' ∧
    ((n ≤ L ∧ fl' = false ∧ e = .returned (.int .i64 ((X / 2 ^ (L - n) : Nat) : Int)) ∧ sl (data.drop p') u' = (L - n, X % 2 ^ (L - n)) ∧ X / 2 ^ (L - n) < 2 ^ n) ∨
     (L < n ∧ fl' = true ∧ ∃ v : Nat, v < 2 ^ n ∧ e = .returned (.int .i64 (v : Int))))

def NumRel (w : World) (g : Nat) (base : Option Addr) (cap : Nat) (data : List UInt8) (L X n : Nat) (k : Nat) (v5 v7 : Value) (wr : World) : Prop :=
  ∃ (i v p1 u1 : Nat) (fl1 : Bool), v5 = .int .i64 (v : Int) ∧ v7 = .int .i64 (i : Int) ∧ i + k = n ∧ v < 2 ^ i ∧ SB wr g base cap data p1 u1 fl1 ∧ Chg (fun k => k = g) w wr ∧
    ((fl1 = false ∧ i ≤ L ∧ v = X / 2 ^ (L - i) ∧ sl (data.drop p1) u1 = (L - i, X % 2 ^ (L - i))) ∨ (fl1 = true ∧ L < n))

theorem or_bit (v b : Nat) (hv : v < 65536) (hb : b < 2) : bits .or .i64 ((v : Int) * 2) (b : Int) = ((v * 2 + b : Nat) : Int) := by
  have := bits_join .i64 62 (by decide) i64_small 1 ((v : Int) * 2) (b : Int) (by omega) (by omega) (by omega) (by omega) (by omega) (by omega)
  rw [this]
  omega

/-- One bit more. -/
theorem one_more (X L1 : Nat) : X / 2 ^ (L1 + 1) * 2 + X % 2 ^ (L1 + 1) / 2 ^ L1 = X / 2 ^ L1 := by
  have h1 : X / 2 ^ (L1 + 1) = X / 2 ^ L1 / 2 := by rw [Nat.pow_succ, Nat.div_div_eq_div_mul]
  have h2 : X % 2 ^ (L1 + 1) / 2 ^ L1 = X / 2 ^ L1 % 2 := by rw [Nat.pow_succ, Nat.mod_mul_right_div_self]
  rw [h1, h2]
  omega
theorem one_less (X L1 : Nat) : X % 2 ^ (L1 + 1) % 2 ^ L1 = X % 2 ^ L1 := by
  rw [Nat.pow_succ]; exact Nat.mod_mul_right_mod _ _ _

/-- A bit, whatever state. -/
theorem bit_all (g : Nat) (base : Option Addr) (cap : Nat) (data : List UInt8) (w : World) (p u : Nat) (fl : Bool) (S : SB w g base cap data p u fl) :
    Calls Tryd.prog 38 #[.pointer (some ⟨g, 0, none⟩)] w (BitPost w g base cap data p u fl) := by
  cases fl
  · exact bit_any g base cap data w p u S
  · exact bit_failed g base cap data w p u S

theorem num_step {w wr w1 : World} {g : Nat} {base : Option Addr} {cap : Nat} {data : List UInt8} {L X n i v p1 u1 k : Nat} {fl1 : Bool} {e : Ending} (hik : i + (k + 1) = n) (hv : v < 2 ^ i) (hC : Chg (fun k => k = g) w wr)
    (h : (fl1 = false ∧ i ≤ L ∧ v = X / 2 ^ (L - i) ∧ sl (data.drop p1) u1 = (L - i, X % 2 ^ (L - i))) ∨ (fl1 = true ∧ L < n)) (P : BitPost wr g base cap data p1 u1 fl1 e w1) :
    ∃ b : Nat, b < 2 ∧ e = .returned (.int .i64 (b : Int)) ∧ NumRel w g base cap data L X n k (.int .i64 ((v * 2 + b : Nat) : Int)) (.int .i64 ((i + 1 : Nat) : Int)) w1 := by
  obtain ⟨hC1, p', u', fl', S', hc⟩ := P
  have hpow : 2 ^ (i + 1) = 2 ^ i * 2 := Nat.pow_succ _ _
  rcases hc with ⟨rfl, rfl, hf⟩ | ⟨rfl, rfl, L1, X1, hs, rfl, hs'⟩
  · refine ⟨0, by decide, rfl, i + 1, v * 2 + 0, p', u', true, rfl, rfl, by omega, by omega, S', hC.trans hC1, .inr ⟨rfl, ?_⟩⟩
    rcases h with ⟨h1, h2, h3, h4⟩ | ⟨_, h2⟩
    · rcases hf with hf | hf
      · rw [h1] at hf; cases hf
      · rw [h4] at hf
        simp only [] at hf
        omega
    · exact h2
  · rcases h with ⟨_, h2, h3, h4⟩ | ⟨h1, _⟩
    · rw [h4] at hs
      simp only [Prod.mk.injEq] at hs
      obtain ⟨e1, e2⟩ := hs
      have hb : X1 / 2 ^ L1 < 2 := by
        rw [← e2, e1]
        exact Nat.div_lt_of_lt_mul (by rw [← Nat.pow_succ]; exact Nat.mod_lt _ (Nat.two_pow_pos _))
      refine ⟨X1 / 2 ^ L1, hb, rfl, i + 1, v * 2 + X1 / 2 ^ L1, p', u', false, rfl, rfl, by omega, by omega, S', hC.trans hC1, .inl ⟨rfl, by omega, ?_, ?_⟩⟩
      · rw [h3, ← e2, e1, show L - (i + 1) = L1 by omega]
        exact one_more X L1
      · rw [hs', ← e2, e1, show L - (i + 1) = L1 by omega, one_less]
    · cases h1

set_option maxRecDepth 100000 in
set_option maxHeartbeats 4000000 in
theorem number_any (g : Nat) (base : Option Addr) (cap : Nat) (data : List UInt8) (w : World) (p u L X n : Nat) (S : SB w g base cap data p u false) (hL : sl (data.drop p) u = (L, X)) (hn : n ≤ 16) (hX : X < 2 ^ L) :
    Calls Tryd.prog 26 #[.pointer (some ⟨g, 0, none⟩), .int .i64 (n : Int)] w (NumPost w g base cap data L X n) := by
  have START : Hid (NumRel w g base cap data L X n n (.int .i64 0) (.int .i64 0) w) :=
    ⟨0, 0, p, u, false, rfl, rfl, by omega, by decide, S, Chg.refl _ w, .inl ⟨rfl, by omega, by rw [Nat.sub_zero, Nat.div_eq_of_lt hX], by rw [hL, Nat.sub_zero, Nat.mod_eq_of_lt hX]⟩⟩
  clear S hL
  have hni : (n : Int) ≤ 16 := by omega
  go_enter Tryd.func26, Tryd.ntmps26
  go_wp2_with fail
  go_loopg [5, 7] n (fun k v5 v7 wr => NumRel w g base cap data L X n k v5 v7 wr)
  case atStart => exact START.out
  case round =>
    clear START
    obtain ⟨i, v, p1, u1, fl1, rfl, rfl, hik, hv, S, hC, hc⟩ := hrel
    have hp16 : 2 ^ i ≤ 2 ^ 16 := Nat.pow_le_pow_right (by decide) (by omega)
    have h65 : (2 : Nat) ^ 16 = 65536 := by decide
    have hv6 : v < 65536 := by omega
    have hvi : (v : Int) < 65536 := by omega
    clear hp16 h65
    have HC := Lib.hid hc
    by_cases hi : i < n
    · have d1 : decide (i < n) = true := by simp; omega
      obtain ⟨kk, rfl⟩ : ∃ kk, gk = kk + 1 := ⟨gk - 1, by omega⟩
      go_wp2_with fail
      refine (bit_all g base cap data _ p1 u1 fl1 S).mono ?_
      rintro e w1 hP
      obtain ⟨b, hb, rfl, hrel⟩ := num_step hik hv hC HC.out hP
      have hbi : (b : Int) < 2 := by omega
      have hor := or_bit v b hv6 hb
      have HR := Lib.hid hrel
      clear hP hrel S hC
      go_wp2_with fail
      go_roundg kk
      case measure => omega
      case rel => exact HR.out
    · have d1 : decide (i < n) = false := by simp; omega
      have FIN : Hid (NumPost w g base cap data L X n (.returned (.int .i64 (v : Int))) wr) := by
        obtain rfl : i = n := by omega
        refine ⟨hC, p1, u1, fl1, S, ?_⟩
        rcases HC.out with ⟨h1, h2, h3, h4⟩ | ⟨h1, h2⟩
        · exact .inl ⟨h2, h1, by rw [h3], h4, by rw [← h3]; exact hv⟩
        · exact .inr ⟨h2, h1, v, hv, rfl⟩
      clear S hC HC hv
      go_wp2_with fail
      go_ret
      exact FIN.out
end Go.Proofs.YtkkplbfbhmlnoaaDoor
