/- The form of a DHT segment as a function on lists of bytes; spec.Formed computes it. Conditions: the argument is a slice of bytes. -/
import Derived.Test.YtkkplbfbhmlnoaaDoorQb
namespace Go.Proofs.YtkkplbfbhmlnoaaDoor
open Go.RowKit

def csum (c : Nat → Nat) : Nat → Nat
  | 0 => 0
  | i + 1 => csum c i + c i
def cnt (l : List UInt8) : Nat → Nat := fun i => (l.getD (i + 1) 0).toNat
theorem csum_le (l : List UInt8) : ∀ i, csum (cnt l) i ≤ 255 * i
  | 0 => Nat.le_refl _
  | i + 1 => by
    have h1 := csum_le l i
    have h2 := (l.getD (i + 1) 0).toNat_lt
    simp only [csum, cnt]
    omega

/-- Is it well formed? -/
def hRun : Nat → List UInt8 → Bool
  | 0, _ => true
  | k + 1, l => if l.length < 17 then decide (l.length = 0)
    else if 1 < (l.getD 0 0).toNat / 16 ∨ 3 < (l.getD 0 0).toNat % 16 ∨ csum (cnt l) 16 = 0 ∨ 256 < csum (cnt l) 16 ∨ l.length < 17 + csum (cnt l) 16 then false
    else hRun k (l.drop (17 + csum (cnt l) 16))
theorem hRun_end (k : Nat) (l : List UInt8) (h : l.length < 17) : hRun (k + 1) l = decide (l.length = 0) := by simp only [hRun]; rw [if_pos h]
theorem hRun_bad (k : Nat) (l : List UInt8) (h : 17 ≤ l.length) (hb : 1 < (l.getD 0 0).toNat / 16 ∨ 3 < (l.getD 0 0).toNat % 16 ∨ csum (cnt l) 16 = 0 ∨ 256 < csum (cnt l) 16 ∨ l.length < 17 + csum (cnt l) 16) : hRun (k + 1) l = false := by
  simp only [hRun]; rw [if_neg (by omega), if_pos hb]
theorem hRun_next (k : Nat) (l : List UInt8) (h : 17 ≤ l.length) (hb : ¬ (1 < (l.getD 0 0).toNat / 16 ∨ 3 < (l.getD 0 0).toNat % 16 ∨ csum (cnt l) 16 = 0 ∨ 256 < csum (cnt l) 16 ∨ l.length < 17 + csum (cnt l) 16)) : hRun (k + 1) l = hRun k (l.drop (17 + csum (cnt l) 16)) := by
  simp only [hRun]; rw [if_neg (by omega), if_neg hb]

def FRel (w : World) (R : Bool) (gk : Nat) (v : Value) (wr : World) : Prop := ∃ l, Sl w w.heap.size v l ∧ l.length < gk ∧ hRun gk l = R ∧ w = wr

def FPost (w : World) (R : Bool) (e : Ending) (w' : World) : Prop := e = .returned (.bool R) ∧ w = w'

theorem frel_mk {w : World} {R : Bool} {l : List UInt8} {kk t m g o : Nat} (hR : hRun kk (l.drop t) = R) (hm : l.length = m) (hlt : m < kk + 1) (h0 : 0 < t) (htm : t ≤ m) (hg : g < w.heap.size) (hc : ∀ j (h : j < l.length), w.cell? ⟨g, o + j, none⟩ = some (.int .u8 (l[j].toNat : Int)))
    (base2 : Option Addr) (len2 cap2 : Nat) (h1 : len2 = m - t) (h2 : len2 ≤ cap2) (h3 : cap2 ≤ 4611686018427387904) (hb : len2 = 0 ∨ base2 = some ⟨g, o + t, none⟩) : FRel w R kk (.slice base2 len2 cap2) w := by
  have hlen : (l.drop t).length = len2 := by rw [List.length_drop, hm, h1]
  refine ⟨l.drop t, ⟨base2, cap2, by rw [hlen], by rw [hlen]; exact h2, h3, ?_⟩, by rw [hlen]; omega, hR, rfl⟩
  rcases hb with h0 | rfl
  · exact .inl (List.eq_nil_of_length_eq_zero (by rw [hlen]; exact h0))
  · refine .inr ⟨g, o + t, rfl, hg, hg, fun k hk => ?_⟩
    rw [Nat.add_assoc, hc (t + k) (by rw [hlen] at hk; omega), List.getElem_drop]

set_option maxRecDepth 100000 in
set_option maxHeartbeats 4000000 in
theorem formed_any (base : Option Addr) (cap : Nat) (l : List UInt8) (w : World) (hc : l.length ≤ cap) (hm : cap ≤ 4611686018427387904) (hb : Bytes w (fun k => k < w.heap.size) base l) :
    Calls Tryd.prog 13 #[.slice base l.length cap] w (FPost w (hRun (l.length + 1) l)) := by
  have START : Hid (FRel w (hRun (l.length + 1) l) (l.length + 1) (.slice base l.length cap) w) := ⟨l, ⟨base, cap, rfl, hc, hm, hb⟩, by omega, rfl, rfl⟩
  generalize hRun (l.length + 1) l = R at *
  clear hb hc
  go_enter Tryd.func13, Tryd.ntmps13
  go_wp2_with fail
  go_loopg [0] (l.length + 1) (fun k v wr => FRel w R k v wr)
  case atStart => exact START.out
  case round =>
    clear START
    obtain ⟨l', ⟨bb, cc, rfl, hcc, hmm, hbb⟩, hlt, hR, rfl⟩ := hrel
    obtain ⟨kk, rfl⟩ : ∃ kk, gk = kk + 1 := ⟨gk - 1, by omega⟩
    obtain ⟨m, hml⟩ : ∃ m, l'.length = m := ⟨_, rfl⟩
    by_cases h17 : m < 17
    · have hRe := hRun_end kk l' (by omega)
      rw [hR, hml] at hRe
      rw [hml]
      have d1 : decide ((17 : Int) ≤ (m : Int)) = false := by simp; omega
      have hmi : (m : Int) < 17 := by omega
      clear hbb hR hlt hcc hmm hml h17
      by_cases h0 : m = 0
      · subst h0
        have FIN : Hid (FPost w R (.returned (.bool true)) w) := ⟨by rw [hRe]; rfl, rfl⟩
        clear hRe
        go_wp2_with fail
        go_ret
        exact FIN.out
      · have e0 : ((m : Int) == 0) = false := by simp; omega
        have FIN : Hid (FPost w R (.returned (.bool false)) w) := ⟨by rw [hRe, decide_eq_false h0], rfl⟩
        clear h0 hRe
        go_wp2_with fail
        go_ret
        exact FIN.out
    · have d1 : decide ((17 : Int) ≤ (m : Int)) = true := by simp; omega
      rcases hbb with h0 | ⟨g, o, rfl, hgw, hgl, hcell⟩
      · subst h0; simp at hml; omega
      rw [hml] at hcc
      have HC := Lib.hid (And.intro hcell (And.intro hR (And.intro hml hgw)))
      rw [hml] at hlt
      rw [hml]
      have c0 : w.cell? ⟨g, o, none⟩ = some (.int .u8 ((l'.getD 0 0).toNat : Int)) := by
        have := HC.out.1 0 (by rw [HC.out.2.2.1]; omega)
        rw [List.getD_eq_getElem?_getD, List.getElem?_eq_getElem (by rw [HC.out.2.2.1]; omega)]
        exact this
      obtain ⟨x, hx, hx6⟩ : ∃ x : Nat, (l'.getD 0 0).toNat = x ∧ x < 256 := ⟨_, rfl, (l'.getD 0 0).toNat_lt⟩
      rw [hx] at c0
      have HX := Lib.hid hx
      clear hcell hR hml hx
      have hmi : 17 ≤ (m : Int) := by omega
      have hmm2 : (m : Int) ≤ 4611686018427387904 := by omega
      go_wp2_with fail
      go_loopg [3, 12] 16 (fun k v3 v12 wr => ∃ i : Nat, v12 = .int .i64 (i : Int) ∧ i + k = 16 ∧ v3 = .int .i64 (csum (cnt l') i : Int) ∧ w = wr)
      case atStart => exact ⟨0, rfl, rfl, rfl, rfl⟩
      case round =>
        obtain ⟨i, rfl, hik, rfl, rfl⟩ := hrel
        have hsum := csum_le l' i
        by_cases hi : i < 16
        · have hi' : (i : Int) < 16 := by omega
          obtain ⟨v, hv, hv6, cv⟩ : ∃ v : Nat, cnt l' i = v ∧ v < 256 ∧ w.cell? ⟨g, o + 1 + i, none⟩ = some (.int .u8 (v : Int)) := by
            refine ⟨_, rfl, (l'.getD (i + 1) 0).toNat_lt, ?_⟩
            rw [Nat.add_assoc, HC.out.1 (1 + i) (by rw [HC.out.2.2.1]; omega)]
            unfold cnt
            rw [List.getD_eq_getElem?_getD, List.getElem?_eq_getElem (by rw [HC.out.2.2.1]; omega)]
            simp [Nat.add_comm 1 i]
          have hvi : (v : Int) < 256 := by omega
          have hs' : csum (cnt l') (i + 1) = csum (cnt l') i + v := by simp only [csum]; rw [hv]
          obtain ⟨s, hs⟩ : ∃ s, csum (cnt l') i = s := ⟨_, rfl⟩
          rw [hs] at hs' hsum ⊢
          have hsi : (s : Int) ≤ 4080 := by omega
          have HS := Lib.hid hs'
          clear hs hs' hsum hv
          go_wp2_with fail
          go_roundg (gk - 1)
          case measure => omega
          case rel => exact ⟨i + 1, by go_num, by omega, by rw [HS.out]; push_cast; rfl, rfl⟩
        · obtain rfl : i = 16 := by omega
          obtain ⟨t, ht⟩ : ∃ t, csum (cnt l') 16 = t := ⟨_, rfl⟩
          rw [ht] at hsum ⊢
          have hti : (t : Int) ≤ 4080 := by omega
          have BAD : Hid ((1 < x / 16 ∨ 3 < x % 16 ∨ t = 0 ∨ 256 < t ∨ m < 17 + t) → Hid (FPost w R (.returned (.bool false)) w)) := fun hb =>
            ⟨by rw [← HC.out.2.1, hRun_bad kk l' (by rw [HC.out.2.2.1]; omega) (by rw [HX.out, ht, HC.out.2.2.1]; exact hb)], rfl⟩
          have HT := Lib.hid ht
          clear ht hsum
          by_cases b1 : 1 < x / 16
          · have q1 : decide (1 < (x : Int) / 16) = true := by simp; omega
            have FIN := BAD.out (by omega)
            clear b1
            go_wp2_with fail
            go_ret
            exact FIN.out
          have q1 : decide (1 < (x : Int) / 16) = false := by simp; omega
          by_cases b2 : 3 < x % 16
          · have q2 : decide (3 < (x : Int) % 16) = true := by simp; omega
            have FIN := BAD.out (by omega)
            clear b1 b2
            go_wp2_with fail
            go_ret
            exact FIN.out
          have q2 : decide (3 < (x : Int) % 16) = false := by simp; omega
          by_cases b3 : t = 0
          · have q3 : ((t : Int) == 0) = true := by simp; omega
            have FIN := BAD.out (by omega)
            clear b1 b2 b3
            go_wp2_with fail
            go_ret
            exact FIN.out
          have q3 : ((t : Int) == 0) = false := by simp; omega
          by_cases b4 : 256 < t
          · have q4 : decide (256 < (t : Int)) = true := by simp; omega
            have FIN := BAD.out (by omega)
            clear b1 b2 b3 b4
            go_wp2_with fail
            go_ret
            exact FIN.out
          have q4 : decide (256 < (t : Int)) = false := by simp; omega
          by_cases b5 : m < 17 + t
          · have q5 : decide ((m : Int) < 17 + (t : Int)) = true := by simp; omega
            have FIN := BAD.out (by omega)
            clear b1 b2 b3 b4 b5
            go_wp2_with fail
            go_ret
            exact FIN.out
          have q5 : decide ((m : Int) < 17 + (t : Int)) = false := by simp; omega
          have NX : Hid (hRun kk (l'.drop (17 + t)) = R) := by
            have := hRun_next kk l' (by rw [HC.out.2.2.1]; omega) (by rw [HX.out, HT.out, HC.out.2.2.1]; omega)
            rw [HT.out] at this
            rw [← this]
            exact HC.out.2.1
          have b5i : 17 + (t : Int) ≤ (m : Int) := by omega
          have hb5 : 17 + t ≤ m := by omega
          clear BAD b1 b2 b3 b4 b5
          by_cases hcap : cc = 17 + t
          · obtain rfl : m = 17 + t := by omega
            subst hcap
            go_wp2_with fail
            go_roundg kk
            case measure => omega
            case rel => exact frel_mk (t := 17 + t) NX.out HC.out.2.2.1 (by omega) (by omega) (by omega) HC.out.2.2.2 HC.out.1 _ (17 + t - (17 + t)) (17 + t - (17 + t)) rfl (by omega) (by omega) (.inl (by omega))
          · go_wp2_with fail
            go_roundg kk
            case measure => omega
            case rel => exact frel_mk (t := 17 + t) NX.out HC.out.2.2.1 (by omega) (by omega) (by omega) HC.out.2.2.2 HC.out.1 _ (m - (17 + t)) (cc - (17 + t)) rfl (by omega) (by omega) (.inr rfl)
end Go.Proofs.YtkkplbfbhmlnoaaDoor
