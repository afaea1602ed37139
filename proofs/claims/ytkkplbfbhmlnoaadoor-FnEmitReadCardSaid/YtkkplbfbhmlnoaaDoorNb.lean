/- (*decoder).ensureNBits: the bits that it takes in. Conditions: those of Src; fewer bits are in than are wanted, and at most 16 are wanted. -/
import Derived.Test.YtkkplbfbhmlnoaaDoorNa
import Derived.Stop.Asserts
namespace Go.Proofs.YtkkplbfbhmlnoaaDoor
open Go.RowKit

/-- Entropy-coded data as a string of bits: how many there are, and the number that they write. -/
def strm : List UInt8 → Nat × Nat
  | [] => (0, 0)
  | [x] => if x.toNat = 255 then (0, 0) else (8, x.toNat)
  | x :: y :: ys => if x.toNat ≠ 255 then (8 + (strm (y :: ys)).1, x.toNat * 2 ^ (strm (y :: ys)).1 + (strm (y :: ys)).2) else if y.toNat = 0 then (8 + (strm ys).1, 255 * 2 ^ (strm ys).1 + (strm ys).2) else (0, 0)

theorem strm_end {l : List UInt8} (h : nxt l = none) : strm l = (0, 0) := by
  match l, h with
  | [], _ => rfl
  | [x], h =>
    by_cases e : x.toNat = 255
    · simp [strm, e]
    · rw [nxt_plain _ _ e] at h; cases h
  | x :: y :: ys, h =>
    by_cases e : x.toNat = 255
    · by_cases e2 : y.toNat = 0
      · rw [nxt_stuffed _ _ _ e e2] at h; cases h
      · simp [strm, e, e2]
    · rw [nxt_plain _ _ e] at h; cases h
theorem strm_next {l xs : List UInt8} {x : UInt8} (h : nxt l = some (x, xs)) : strm l = (8 + (strm xs).1, x.toNat * 2 ^ (strm xs).1 + (strm xs).2) ∧ xs.length < l.length := by
  match l, h with
  | [], h => cases h
  | [y], h =>
    by_cases e : y.toNat = 255
    · rw [nxt_last _ e] at h; cases h
    · rw [nxt_plain _ _ e] at h; cases h; simp [strm, e]
  | u :: y :: ys, h =>
    by_cases e : u.toNat = 255
    · by_cases e2 : y.toNat = 0
      · rw [nxt_stuffed _ _ _ e e2] at h; cases h; simp [strm, e, e2]; omega
      · rw [nxt_marker _ _ _ e e2] at h; cases h
    · rw [nxt_plain _ _ e] at h; cases h; simp [strm, e]
theorem strm_lt : ∀ (n : Nat) (l : List UInt8), l.length ≤ n → (strm l).2 < 2 ^ (strm l).1
  | 0, l, h => by
    have : l = [] := List.eq_nil_of_length_eq_zero (by omega)
    subst this; decide
  | n + 1, l, h => by
    cases hn : nxt l with
    | none => rw [strm_end hn]; decide
    | some p =>
      obtain ⟨x, xs⟩ := p
      obtain ⟨h1, h2⟩ := strm_next hn
      have ih := strm_lt n xs (by omega)
      rw [h1]
      simp only [Nat.pow_add]
      have hx : x.toNat ≤ 255 := by have := x.toNat_lt; omega
      calc x.toNat * 2 ^ (strm xs).1 + (strm xs).2 < x.toNat * 2 ^ (strm xs).1 + 2 ^ (strm xs).1 := by omega
        _ = (x.toNat + 1) * 2 ^ (strm xs).1 := by rw [Nat.add_mul, Nat.one_mul]
        _ ≤ 2 ^ 8 * 2 ^ (strm xs).1 := Nat.mul_le_mul_right _ (by omega)

/-- A byte taken in. -/
theorem take_in (A x k : Nat) (hx : x < 256) (hk : k + 8 ≤ 32) : (A * 256 % 4294967296 + x) % 2 ^ (k + 8) = A % 2 ^ k * 256 + x := by
  have h1 : (4294967296 : Nat) = 2 ^ (k + 8) * 2 ^ (24 - k) := by rw [← Nat.pow_add, show k + 8 + (24 - k) = 32 by omega]
  have h2 : A * 256 % 4294967296 % 2 ^ (k + 8) = A * 256 % 2 ^ (k + 8) := by rw [h1]; exact Nat.mod_mul_right_mod _ _ _
  have h3 : A * 256 % 2 ^ (k + 8) = A % 2 ^ k * 256 := by rw [Nat.pow_add, show (2 : Nat) ^ 8 = 256 from rfl, Nat.mul_mod_mul_right]
  have hlt : A % 2 ^ k < 2 ^ k := Nat.mod_lt _ (Nat.two_pow_pos _)
  have hb : A % 2 ^ k * 256 + x < 2 ^ (k + 8) := by rw [Nat.pow_add, show (2 : Nat) ^ 8 = 256 from rfl]; omega
  rw [Nat.add_mod, h2, h3, Nat.mod_eq_of_lt (show x < 2 ^ (k + 8) from by omega), Nat.mod_eq_of_lt hb]
theorem or_in (A x : Nat) (hx : x < 256) : bits .or .u32 ((A : Int) * 256 % 4294967296) (x : Int) = ((A * 256 % 4294967296 + x : Nat) : Int) := by
  have := bits_join .u32 32 (by decide) (fun n h0 h1 => by rw [IntKind.wrap_u32]; omega) 8 ((A : Int) * 256 % 4294967296) (x : Int) (by omega) (by omega) (by omega) (by omega) (by omega) (by omega)
  rw [this]
  omega

/-- The decoder holds k bits of A, and will read rest. -/
structure BSt (w : World) (b r : Nat) (a1 a2 : Addr) (base : Option Addr) (cap : Nat) (data : List UInt8) (f : Nat → Value) (rest : List UInt8) (k A m : Nat) : Prop where
  src : Src w b r a1 a2 f base cap data rest
  ha : f 1 = .int .u32 (A : Int)
  hm : f 2 = .int .u32 (m : Int)
  hk : f 3 = .int .i32 (k : Int)
  alt : A < 4294967296
  mlt : m < 4294967296

/-- How many bits are left, and the number that they write. -/
def left (rest : List UInt8) (k A : Nat) : Nat × Nat := (k + (strm rest).1, A % 2 ^ k * 2 ^ (strm rest).1 + (strm rest).2)
theorem left_next {l xs : List UInt8} {x : UInt8} (h : nxt l = some (x, xs)) (k A : Nat) (hk : k + 8 ≤ 32) : left xs (k + 8) (A * 256 % 4294967296 + x.toNat) = left l k A := by
  obtain ⟨h1, _⟩ := strm_next h
  unfold left
  rw [h1, take_in _ _ _ x.toNat_lt hk]
  simp only [Prod.mk.injEq]
  constructor
  · omega
  · rw [Nat.add_mul, Nat.mul_assoc, Nat.pow_add, show (2 : Nat) ^ 8 = 256 from rfl, Nat.add_assoc]

abbrev shortS : ByteArray := { data := #[115, 104, 111, 114, 116, 32, 72, 117, 102, 102, 109, 97, 110, 32, 100, 97, 116, 97] }

def EnsPost (w : World) (b r : Nat) (a1 a2 : Addr) (base : Option Addr) (cap : Nat) (data : List UInt8) (f : Nat → Value) (rest : List UInt8) (k A m n : Nat) (e : Ending) (w' : World) : Prop :=
  ∃ f', Chg (BR b r) w w' ∧ (∀ c, 4103 ≤ c → f' c = f c) ∧
    ((∃ rest' k' A' m', e = .returned .nilIface ∧ BSt w' b r a1 a2 base cap data f' rest' k' A' m' ∧ n ≤ k' ∧ k' < n + 8 ∧ left rest' k' A' = left rest k A ∧
        (n ≤ k + 8 → (m = 0 → m' = 128) ∧ ∃ x, nxt rest = some (x, rest') ∧ k' = k + 8 ∧ A' = A * 256 % 4294967296 + x.toNat)) ∨
     ((left rest k A).1 < n ∧ ∃ s, e = .returned (.iface 103 (.string s)) ∧ (rest = [] → s = shortS ∧ f' 4102 = .int .i64 0 ∧ BSt w' b r a1 a2 base cap data f' [] k A m)))

/-- At the head of a round. -/
def EnsRel (w : World) (b r : Nat) (a1 a2 : Addr) (base : Option Addr) (cap : Nat) (data : List UInt8) (f : Nat → Value) (rest : List UInt8) (k A m n : Nat) (gk : Nat) (wr : World) : Prop :=
  ∃ F l k1 A1 m1, BSt wr b r a1 a2 base cap data F l k1 A1 m1 ∧ Chg (BR b r) w wr ∧ (∀ c, 4103 ≤ c → F c = f c) ∧ k1 < n ∧ left l k1 A1 = left rest k A ∧ l.length < gk ∧
    ((l = rest ∧ k1 = k ∧ A1 = A ∧ m1 = m) ∨ (k + 8 < n ∧ rest ≠ []))

theorem bst_taken {w : World} {b r : Nat} {a1 a2 : Addr} {base : Option Addr} {cap : Nat} {data xs : List UInt8} {f2 : Nat → Value} (S : Src w b r a1 a2 f2 base cap data xs) (k A m : Nat) (vk vm : Int) (hk : vk = (k : Int)) (hm : vm = (m : Int)) (hA : A < 4294967296) (hml : m < 4294967296) :
    BSt (((w.setCell ⟨b, 1, none⟩ (.int .u32 (A : Int))).setCell ⟨b, 3, none⟩ (.int .i32 vk)).setCell ⟨b, 2, none⟩ (.int .u32 vm)) b r a1 a2 base cap data (upd (upd (upd f2 1 (.int .u32 (A : Int))) 3 (.int .i32 vk)) 2 (.int .u32 vm)) xs k A m :=
  ⟨((S.set (.inl (by decide)) (by decide) _).set (.inl (by decide)) (by decide) _).set (.inl (by decide)) (by decide) _, by rw [upd_ne _ _ _ _ (by decide), upd_ne _ _ _ _ (by decide), upd_same], by rw [upd_same, hm], by rw [upd_ne _ _ _ _ (by decide), upd_same, hk], hA, hml⟩

set_option maxRecDepth 100000 in
set_option maxHeartbeats 4000000 in
theorem ensure_any (b r : Nat) (a1 a2 : Addr) (base : Option Addr) (cap : Nat) (data : List UInt8) (w : World) (f : Nat → Value) (rest : List UInt8) (k A m n : Nat) (h : BSt w b r a1 a2 base cap data f rest k A m) (hkn : k < n) (hn : n ≤ 16) :
    Calls Tryd.prog 48 #[.pointer (some ⟨b, 0, none⟩), .int .i32 (n : Int)] w (EnsPost w b r a1 a2 base cap data f rest k A m n) := by
  have START : Hid (EnsRel w b r a1 a2 base cap data f rest k A m n (rest.length + 1) w) :=
    ⟨f, rest, k, A, m, h, Chg.refl _ w, fun _ _ => rfl, hkn, rfl, Nat.lt_succ_self _, .inl ⟨rfl, rfl, rfl, rfl⟩⟩
  clear h hkn
  have hni : (n : Int) ≤ 16 := by omega
  go_enter Tryd.func48, Tryd.ntmps48
  go_wp2_with fail
  go_loopg [5] (rest.length + 1) (fun g v wr => EnsRel w b r a1 a2 base cap data f rest k A m n g wr)
  case atStart => exact START.out
  case round =>
    clear START
    obtain ⟨F, l, k1, A1, m1, S, hC, hF, hk1, hL, hlt, hfst⟩ := hrel
    have H := Lib.hid (And.intro S (And.intro hC (And.intro hF (And.intro hL (And.intro hlt hfst)))))
    clear hC hF hL hlt hfst
    have hk1i : (k1 : Int) < (n : Int) := by omega
    go_wp2_with fail
    refine (stuffed_any b r a1 a2 _ F base cap data l S.src).mono ?_
    clear S
    rintro e w2 ⟨f2, hC2, hf2, ⟨x, xs, hx, rfl, hS2⟩ | ⟨hx, er, rfl, her, ⟨rest', hS2⟩, hnil⟩⟩
    · have HS2 := Lib.hid hS2
      obtain ⟨v, hv, hv6⟩ : ∃ v : Nat, x.toNat = v ∧ v < 256 := ⟨_, rfl, x.toNat_lt⟩
      have ca := hS2.blk.at 1 (by decide) ((hf2 1 (.inl (by decide))).trans H.out.1.ha)
      have cm := hS2.blk.at 2 (by decide) ((hf2 2 (.inl (by decide))).trans H.out.1.hm)
      have ck := hS2.blk.at 3 (by decide) ((hf2 3 (.inl (by decide))).trans H.out.1.hk)
      have fa := hS2.blk.free 1
      have fm := hS2.blk.free 2
      have fk := hS2.blk.free 3
      have hA1 : (A1 : Int) < 4294967296 := by have := H.out.1.alt; omega
      have hm1 : (m1 : Int) < 4294967296 := by have := H.out.1.mlt; omega
      obtain ⟨A', hA', hA2⟩ : ∃ A' : Nat, A1 * 256 % 4294967296 + v = A' ∧ A' < 4294967296 := ⟨_, rfl, by omega⟩
      have hor := or_in A1 v hv6
      rw [hA'] at hor
      obtain ⟨hL2, hlen⟩ : left xs (k1 + 8) A' = left rest k A ∧ xs.length < l.length := ⟨by rw [← hA', ← hv, left_next hx k1 A1 (by omega)]; exact H.out.2.2.2.1, (strm_next hx).2⟩
      obtain ⟨m', hm', hm2⟩ : ∃ m' : Nat, (if m1 = 0 then 128 else m1 * 256 % 4294967296) = m' ∧ m' < 4294967296 := ⟨_, rfl, by split <;> omega⟩
      have NX : Hid (∀ vm : Int, vm = (m' : Int) → BSt (((w2.setCell ⟨b, 1, none⟩ (.int .u32 (A' : Int))).setCell ⟨b, 3, none⟩ (.int .i32 ((k1 : Int) + 8))).setCell ⟨b, 2, none⟩ (.int .u32 vm)) b r a1 a2 base cap data (upd (upd (upd f2 1 (.int .u32 (A' : Int))) 3 (.int .i32 ((k1 : Int) + 8))) 2 (.int .u32 vm)) xs (k1 + 8) A' m' ∧
          Chg (BR b r) w (((w2.setCell ⟨b, 1, none⟩ (.int .u32 (A' : Int))).setCell ⟨b, 3, none⟩ (.int .i32 ((k1 : Int) + 8))).setCell ⟨b, 2, none⟩ (.int .u32 vm)) ∧ (∀ c, 4103 ≤ c → (upd (upd (upd f2 1 (.int .u32 (A' : Int))) 3 (.int .i32 ((k1 : Int) + 8))) 2 (.int .u32 vm)) c = f c)) := fun vm hvm =>
        ⟨bst_taken HS2.out (k1 + 8) A' m' _ vm (by simp) hvm hA2 hm2, (((H.out.2.1.trans hC2).setCell (p := ⟨b, 1, none⟩) (fun _ => .inl rfl) _).setCell (p := ⟨b, 3, none⟩) (fun _ => .inl rfl) _).setCell (p := ⟨b, 2, none⟩) (fun _ => .inl rfl) _, fun c hc => by rw [upd_ne _ _ _ _ (by omega), upd_ne _ _ _ _ (by omega), upd_ne _ _ _ _ (by omega), hf2 c (.inr hc)]; exact H.out.2.2.1 c hc⟩
      have HX := Lib.hid (And.intro hx (And.intro hv (And.intro hA' (And.intro hm' hL2))))
      clear hx hv hA' hL2 hC2 hf2 hS2
      rw [HX.out.2.1]
      by_cases hex : n ≤ k1 + 8
      · have d1 : decide ((n : Int) ≤ (k1 : Int) + 8) = true := by simp; omega
        have FIN : Hid (∀ vm : Int, vm = (m' : Int) → EnsPost w b r a1 a2 base cap data f rest k A m n (.returned .nilIface) (((w2.setCell ⟨b, 1, none⟩ (.int .u32 (A' : Int))).setCell ⟨b, 3, none⟩ (.int .i32 ((k1 : Int) + 8))).setCell ⟨b, 2, none⟩ (.int .u32 vm))) := fun vm hvm => by
          obtain ⟨h1, h2, h3⟩ := NX.out vm hvm
          refine ⟨_, h2, h3, .inl ⟨xs, k1 + 8, A', m', rfl, h1, hex, by omega, HX.out.2.2.2.2, fun hle => ?_⟩⟩
          rcases H.out.2.2.2.2.2 with ⟨e1, e2, e3, e4⟩ | ⟨e1, _⟩
          · subst e1 e2 e3 e4
            exact ⟨fun h0 => by rw [← HX.out.2.2.2.1, if_pos h0], x, HX.out.1, rfl, by rw [HX.out.2.1]; exact HX.out.2.2.1.symm⟩
          · omega
        by_cases hm0 : m1 = 0
        · subst hm0
          have e0 : m' = 128 := by rw [← HX.out.2.2.2.1, if_pos rfl]
          clear hm' hlen
          go_wp2_with fail
          go_ret
          exact FIN.out 128 (by rw [e0]; rfl)
        · have em : ((m1 : Int) == 0) = false := by simp; omega
          have e0 : (m1 : Int) * 256 % 4294967296 = (m' : Int) := by rw [← HX.out.2.2.2.1, if_neg hm0]; omega
          clear hm' hlen
          go_wp2_with fail
          go_ret
          exact FIN.out _ rfl
      · have d1 : decide ((n : Int) ≤ (k1 : Int) + 8) = false := by simp; omega
        have FIN : Hid (∀ vm : Int, vm = (m' : Int) → EnsRel w b r a1 a2 base cap data f rest k A m n (gk - 1) (((w2.setCell ⟨b, 1, none⟩ (.int .u32 (A' : Int))).setCell ⟨b, 3, none⟩ (.int .i32 ((k1 : Int) + 8))).setCell ⟨b, 2, none⟩ (.int .u32 vm))) := fun vm hvm => by
          obtain ⟨h1, h2, h3⟩ := NX.out vm hvm
          have hlt := H.out.2.2.2.2.1
          refine ⟨_, xs, k1 + 8, A', m', h1, h2, h3, by omega, HX.out.2.2.2.2, by omega, .inr ?_⟩
          rcases H.out.2.2.2.2.2 with ⟨e1, e2, e3, e4⟩ | e1
          · refine ⟨by omega, fun h0 => ?_⟩
            rw [← e1] at h0
            have := HX.out.1
            rw [h0] at this
            cases this
          · exact e1
        have hgk : 0 < gk := by have := H.out.2.2.2.2.1; omega
        by_cases hm0 : m1 = 0
        · subst hm0
          have e0 : m' = 128 := by rw [← HX.out.2.2.2.1, if_pos rfl]
          clear hm' hlen
          go_wp2_with fail
          go_roundg (gk - 1)
          case measure => omega
          case rel => exact FIN.out 128 (by rw [e0]; rfl)
        · have em : ((m1 : Int) == 0) = false := by simp; omega
          have e0 : (m1 : Int) * 256 % 4294967296 = (m' : Int) := by rw [← HX.out.2.2.2.1, if_neg hm0]; omega
          clear hm' hlen
          go_wp2_with fail
          go_roundg (gk - 1)
          case measure => omega
          case rel => exact FIN.out _ rfl
    · have FIN : Hid (∀ s, (l = [] → s = shortS) → EnsPost w b r a1 a2 base cap data f rest k A m n (.returned (.iface 103 (.string s))) w2) := fun s hs => by
        refine ⟨f2, H.out.2.1.trans hC2, fun c hc => by rw [hf2 c (.inr hc)]; exact H.out.2.2.1 c hc, .inr ⟨?_, s, rfl, fun h0 => ?_⟩⟩
        · rw [← H.out.2.2.2.1]
          unfold left
          rw [strm_end hx]
          simpa using hk1
        · rcases H.out.2.2.2.2.2 with ⟨e1, e2, e3, e4⟩ | ⟨_, e1⟩
          · have hl0 : l = [] := by rw [e1, h0]
            obtain ⟨_, hu, hS⟩ := hnil hl0
            subst e2 e3 e4
            exact ⟨hs hl0, hu, hS, (hf2 1 (.inl (by decide))).trans H.out.1.ha, (hf2 2 (.inl (by decide))).trans H.out.1.hm, (hf2 3 (.inl (by decide))).trans H.out.1.hk, H.out.1.alt, H.out.1.mlt⟩
          · exact absurd h0 e1
      have g1 : w2.cell? ⟨1, 0, none⟩ = some (.iface 178 (.pointer (some a1))) := by
        obtain ⟨_, _, _, _, S0, _⟩ := hS2
        exact S0.glob.g1
      have hge := eql178 a1
      rcases her with rfl | ⟨s, rfl⟩
      · have FIN2 := Lib.hid (FIN.out shortS (fun _ => rfl))
        clear FIN H hC2 hf2 hx hS2 hnil
        go_wp2_with fail
        go_ret
        exact FIN2.out
      · have FIN2 := Lib.hid (FIN.out s (fun h => by have := (hnil h).1; cases this))
        have hne := fun w => run_eql_iface_types (P := Tryd.prog) 103 178 (.string s) (.pointer (some a1)) Tryd.underlying55 (by decide) w
        clear FIN H hC2 hf2 hx hS2 hnil
        go_wp2_with fail
        go_ret
        exact FIN2.out
end Go.Proofs.YtkkplbfbhmlnoaaDoor
