/- spec.Coded: where its flag is true, its arguments are codes with their lengths; it does not panic. Conditions: the arguments are slices of at most 2147483647 numbers of 32 bits. -/
import Derived.Test.YtkkplbfbhmlnoaaDoorPc
namespace Go.Proofs.YtkkplbfbhmlnoaaDoor
open Go.RowKit

theorem SinkSt.many {w W : World} {sb B n m : Nat} (h : SinkSt w W sb B n m) : W.cell? ⟨sb, 2, none⟩ = some (.int .i64 (m : Int)) := by
  obtain ⟨v, z, xs, hB, _⟩ := h.st
  exact hB.blk.cell 2 (by decide)

set_option maxRecDepth 100000 in
set_option maxHeartbeats 4000000 in
theorem sinkAlign (w W : World) (sb B n m : Nat) (h : SinkSt w W sb B n m) (hn : n ≤ 140737488340000) :
    Calls Tryd.prog 22 #[.pointer (some ⟨sb, 0, none⟩)] W (fun e W' => e = .returned (.tuple #[]) ∧ ∃ n', SinkSt w W' sb B n' 0) := by
  have START := Lib.hid h
  clear h
  go_enter Tryd.func22, Tryd.ntmps22
  go_wp2_with fail
  go_loopg [] 8 (fun gk wr => ∃ n' m', SinkSt w wr sb B n' m' ∧ (m' = 0 ∨ 8 ≤ m' + gk) ∧ n' + 2 * gk ≤ n + 16)
  case atStart => exact ⟨n, m, START.out, .inr (by omega), by omega⟩
  case round =>
    clear START
    obtain ⟨n', m', S, hm, hn'⟩ := hrel
    have c2 := S.many
    have hm8 := S.m8
    by_cases h0 : m' = 0
    · subst h0
      go_wp2_with fail
      go_end0
      exact ⟨rfl, n', S⟩
    · have q : decide ((0 : Int) < (m' : Int)) = true := by simp; omega
      have q2 : decide (0 < m') = true := by simp; omega
      have PUT := Lib.hid (sinkPut w wr sb B n' m' 1 1 S (by decide) (by omega))
      clear S
      go_wp2_with fail
      refine PUT.out.mono ?_
      rintro e W2 ⟨rfl, n2, m2, hn2, hm2, S2⟩
      have H2 := Lib.hid S2
      have hm28 := S2.m8
      clear S2 PUT
      go_wp2_with fail
      go_roundg (gk - 1)
      case measure => omega
      case rel => exact ⟨n2, m2, H2.out, by omega, by omega⟩

theorem sink_new {w : World} {sb : Nat} (hsb : w.heap.size = sb) : SinkSt w (w.alloc (.cells #[.slice none 0 0, .int .i64 0, .int .i64 0] 61)) sb (sb + 1) 0 0 := by
  have B := Blk.ofNew w #[.slice none 0 0, .int .i64 0, .int .i64 0] 61 3 (sinkF (.slice none 0 0) 0 ((0 : Nat) : Int)) (fun k hk => by
    match k, hk with
    | 0, _ => rfl
    | 1, _ => rfl
    | 2, _ => rfl)
  rw [hsb] at B
  exact ⟨⟨_, 0, [], ⟨B, (Chg.refl _ w).alloc _, by omega, Nat.lt_succ_self _, by rw [World.size_alloc]; omega⟩, World.ownsRow_nil _ _ _ _⟩, by decide⟩

/-- Codes with their lengths. -/
def isCode (c n : Nat) : Prop := 1 ≤ n ∧ n ≤ 16 ∧ c < 2 ^ n

def CodedPost (w : World) (cs ns : List Nat) (e : Ending) (w' : World) : Prop :=
  Chg (fun _ => False) w w' ∧ ∃ v ok, e = .returned (.tuple #[v, .bool ok]) ∧ (ok = true → cs.length = ns.length ∧ ∀ i (h1 : i < cs.length) (h2 : i < ns.length), isCode cs[i] ns[i])

set_option maxRecDepth 100000 in
set_option maxHeartbeats 4000000 in
theorem coded_any (cb nb : Option Addr) (cc nc : Nat) (cs ns : List Nat) (w : World) (hcc : cs.length ≤ cc) (hnc : ns.length ≤ nc) (hl : cs.length ≤ 2147483647) (hl2 : ns.length ≤ 2147483647) (hr : Row w (fun k => k < w.heap.size) .u32 cb cs) (hr2 : Row w (fun k => k < w.heap.size) .u32 nb ns)
    (hc32 : ∀ c ∈ cs, c < 4294967296) (hn32 : ∀ n ∈ ns, n < 4294967296) :
    Calls Tryd.prog 10 #[.slice cb cs.length cc, .slice nb ns.length nc] w (CodedPost w cs ns) := by
  have HIN := Lib.hid (And.intro hr (And.intro hr2 (And.intro hc32 hn32)))
  have NO : Hid (∀ W v, Chg (fun _ => False) w W → CodedPost w cs ns (.returned (.tuple #[v, .bool false])) W) := fun W v hC => ⟨hC, v, false, rfl, fun h => by cases h⟩
  obtain ⟨sb, hsb⟩ : ∃ sb, w.heap.size = sb := ⟨_, rfl⟩
  have hcl : (cs.length : Int) ≤ 2147483647 := by omega
  have hnl : (ns.length : Int) ≤ 2147483647 := by omega
  clear hr hr2 hc32 hn32 hcc hnc
  go_enter Tryd.func10, Tryd.ntmps10
  by_cases hle : cs.length = ns.length
  · obtain ⟨N, hcN⟩ : ∃ N, cs.length = N := ⟨_, rfl⟩
    have hnN : ns.length = N := by omega
    rw [hcN, hnN]
    have HN := Lib.hid (And.intro hcN hnN)
    have hN : N ≤ 2147483647 := by omega
    have hNi : (N : Int) ≤ 2147483647 := by omega
    clear hle hcN hnN hcl hnl hl hl2
    go_wp2_with fail
    try rw [hsb]
    have START := Lib.hid (sink_new hsb)
    go_loopg [18] N (fun gk v18 wr => ∃ (i n m : Nat), v18 = .int .i64 (i : Int) ∧ i + gk = N ∧ n ≤ 32 * i ∧ Hid (SinkSt w wr sb (sb + 1) n m) ∧ Hid (∀ j (h1 : j < cs.length) (h2 : j < ns.length), j < i → isCode cs[j] ns[j]))
    case atStart => exact ⟨0, 0, 0, rfl, by omega, by omega, START, fun j _ _ h => absurd h (by omega)⟩
    case round =>
      clear START
      obtain ⟨i, n, m, rfl, hik, hn, HS, HG⟩ := hrel
      have HCW := Lib.hid (show Chg (fun _ => False) w wr from by obtain ⟨_, _, _, hB, _⟩ := HS.out.st; exact hB.chg)
      by_cases hi : i < N
      · have d1 : decide (i < N) = true := by simp; omega
        have hi1 : i < cs.length := by rw [HN.out.1]; exact hi
        have hi2 : i < ns.length := by rw [HN.out.2]; exact hi
        obtain ⟨g1, o1, rfl, hg1, k1⟩ := (HIN.out.1.chg HCW.out (fun _ _ h => h)).at i hi1
        obtain ⟨g2, o2, rfl, hg2, k2⟩ := (HIN.out.2.1.chg HCW.out (fun _ _ h => h)).at i hi2
        obtain ⟨c, hc, hc32⟩ : ∃ c, cs[i] = c ∧ c < 4294967296 := ⟨_, rfl, HIN.out.2.2.1 _ (List.getElem_mem hi1)⟩
        obtain ⟨l, hl', hl32⟩ : ∃ l, ns[i] = l ∧ l < 4294967296 := ⟨_, rfl, HIN.out.2.2.2 _ (List.getElem_mem hi2)⟩
        rw [hc] at k1
        rw [hl'] at k2
        have hci : (c : Int) < 4294967296 := by omega
        have hli : (l : Int) < 4294967296 := by omega
        have HX := Lib.hid (And.intro hc hl')
        clear hc hl'
        by_cases b1 : l < 1
        · have e1 : decide ((l : Int) < 1) = true := by simp; omega
          have e2 : decide (l < 1) = true := by simp; omega
          have e3 : l = 0 := by omega
          subst e3
          go_wp2_with fail
          go_ret2
          exact NO.out _ _ HCW.out
        by_cases b2 : 16 < l
        · have e1 : decide ((l : Int) < 1) = false := by simp; omega
          have e2 : decide ((16 : Int) < (l : Int)) = true := by simp; omega
          have e3 : decide (16 < l) = true := by simp; omega
          go_wp2_with fail
          go_ret2
          exact NO.out _ _ HCW.out
        have e1 : decide ((l : Int) < 1) = false := by simp; omega
        have e2 : decide ((16 : Int) < (l : Int)) = false := by simp; omega
        have e3 : decide (16 < l) = false := by simp; omega
        obtain ⟨p, hp, hp1, hp2, hpe⟩ : ∃ p : Nat, (2 : Int) ^ l = (p : Int) ∧ 0 < p ∧ p ≤ 65536 ∧ 2 ^ l = p := ⟨2 ^ l, by push_cast; rfl, Nat.two_pow_pos _, Nat.pow_le_pow_right (by decide) (show l ≤ 16 by omega), rfl⟩
        have hpi : (p : Int) ≤ 65536 := by omega
        have hl16 : (l : Int) ≤ 16 := by omega
        have HP := Lib.hid hpe
        clear hpe
        by_cases b3 : p ≤ c
        · have e4 : decide ((p : Int) ≤ (c : Int)) = true := by simp; omega
          have e5 : decide (p ≤ c) = true := by simp; omega
          go_wp2_with fail
          go_ret2
          exact NO.out _ _ HCW.out
        have e4 : decide ((p : Int) ≤ (c : Int)) = false := by simp; omega
        have e5 : decide (p ≤ c) = false := by simp; omega
        have PUT := Lib.hid (sinkPut w wr sb (sb + 1) n m l (c : Int) HS.out (by omega) (by omega))
        have HG2 : Hid (∀ j (h1 : j < cs.length) (h2 : j < ns.length), j < i + 1 → isCode cs[j] ns[j]) := fun j h1 h2 hj => by
          by_cases e : j = i
          · subst e
            rw [HX.out.1, HX.out.2]
            exact ⟨by omega, by omega, by rw [HP.out]; omega⟩
          · exact HG.out j h1 h2 (by omega)
        go_wp2_with fail
        refine PUT.out.mono ?_
        rintro e W2 ⟨rfl, n2, m2, hn2, _, S2⟩
        have H2 := Lib.hid S2
        clear S2 PUT HS HG
        go_wp2_with fail
        go_roundg (gk - 1)
        case measure => omega
        case rel => exact ⟨i + 1, n2, m2, by go_num, by omega, by omega, H2, HG2⟩
      · have d1 : decide (i < N) = false := by simp; omega
        have AL := Lib.hid (sinkAlign w wr sb (sb + 1) n m HS.out (by omega))
        have YES : Hid (∀ W v, Chg (fun _ => False) w W → CodedPost w cs ns (.returned (.tuple #[v, .bool true])) W) := fun W v hC => ⟨hC, v, true, rfl, fun _ => ⟨by rw [HN.out.1, HN.out.2], fun j h1 h2 => HG.out j h1 h2 (by have := HN.out.1; omega)⟩⟩
        go_wp2_with fail
        refine AL.out.mono ?_
        rintro e W2 ⟨rfl, n2, S2⟩
        obtain ⟨v, z, xs, hB, _⟩ := S2.st
        have c0 : W2.cell? ⟨sb, 0, none⟩ = some v := hB.blk.cell 0 (by decide)
        have HC2 := Lib.hid hB.chg
        clear S2 hB AL HS HG
        go_wp2_with fail
        go_ret2
        exact YES.out _ _ HC2.out
  · have q0 : ((cs.length : Int) == (ns.length : Int)) = false := by simp; omega
    go_wp2_with fail
    go_ret2
    exact NO.out _ _ (Chg.refl _ w)
end Go.Proofs.YtkkplbfbhmlnoaaDoor
