/- (*spec.bits).signed and spec.Numbers: what they return. Conditions: the arguments are slices; each size is at most 16; at most 2147483647 sizes. -/
import Derived.Test.YtkkplbfbhmlnoaaDoorSc
import Derived.Test.YtkkplbfbhmlnoaaDoorNd
namespace Go.Proofs.YtkkplbfbhmlnoaaDoor
open Go.RowKit

def SgnPost (w : World) (g : Nat) (base : Option Addr) (cap : Nat) (data : List UInt8) (L X n : Nat) (e : Ending) (w' : World) : Prop :=
  Chg (fun k => k = g) w w' ∧ ∃ p' u' fl', SB w' g base cap data p' u' fl' ∧
    ((n ≤ L ∧ fl' = false ∧ e = .returned (.int .i64 (sgn n (X / 2 ^ (L - n)))) ∧ sl (data.drop p') u' = (L - n, X % 2 ^ (L - n))) ∨
     (L < n ∧ fl' = true ∧ ∃ v : Int, e = .returned (.int .i64 v)))

theorem sgn_post {w w' : World} {g : Nat} {base : Option Addr} {cap : Nat} {data : List UInt8} {L X n : Nat} {e : Ending} (P : NumPost w g base cap data L X n e w') : ∃ v : Nat, v < 2 ^ n ∧ e = .returned (.int .i64 (v : Int)) ∧ SgnPost w g base cap data L X n (.returned (.int .i64 (sgn n v))) w' := by
  obtain ⟨hC, p', u', fl', S, ⟨h1, h2, rfl, h4, h5⟩ | ⟨h1, h2, v, h3, rfl⟩⟩ := P
  · exact ⟨_, h5, rfl, hC, p', u', fl', S, .inl ⟨h1, h2, rfl, h4⟩⟩
  · exact ⟨v, h3, rfl, hC, p', u', fl', S, .inr ⟨h1, h2, _, rfl⟩⟩
theorem pow_wrap64 (n : Nat) (hn : n ≤ 16) : wrap64 (2 ^ n) = ((2 ^ n : Nat) : Int) := by
  have h1 := pow_le n hn
  have e2 : ((2 : Int) ^ n) = ((2 ^ n : Nat) : Int) := by push_cast; rfl
  rw [e2]
  generalize 2 ^ n = d at *
  simp only [wrap64]
  omega
theorem le_cast {x : Nat} (h : x ≤ 65536) : (x : Int) ≤ 65536 := by omega
theorem pow_cast (n : Nat) : ((2 ^ n : Nat) : Int) = (2 : Int) ^ n := by push_cast; rfl

set_option maxRecDepth 100000 in
set_option maxHeartbeats 4000000 in
theorem signed_any (g : Nat) (base : Option Addr) (cap : Nat) (data : List UInt8) (w : World) (p u L X n : Nat) (S : SB w g base cap data p u false) (hL : sl (data.drop p) u = (L, X)) (hn : n ≤ 16) (hX : X < 2 ^ L) :
    Calls Tryd.prog 27 #[.pointer (some ⟨g, 0, none⟩), .int .i64 (n : Int)] w (SgnPost w g base cap data L X n) := by
  have NUM := Lib.hid (number_any g base cap data w p u L X n S hL hn hX)
  clear S hL hX
  have hni : (n : Int) ≤ 16 := by omega
  go_enter Tryd.func27, Tryd.ntmps27
  go_wp2_with fail
  refine NUM.out.mono ?_
  clear NUM
  rintro e w1 hP
  obtain ⟨v, hv, rfl, hQ⟩ := sgn_post hP
  have FIN := Lib.hid hQ
  have hvi : (v : Int) < 65536 := lt_cast (Nat.lt_of_lt_of_le hv (pow_le n hn))
  clear hP hQ hv
  by_cases hpos : 0 < n
  · have d0 : decide (0 < n) = true := by simp; omega
    obtain ⟨n1, hn1, hn1e⟩ : ∃ n1 : Nat, ((n : Int) - 1) = (n1 : Int) ∧ n1 = n - 1 := ⟨n - 1, by omega, rfl⟩
    have hn1b : (n1 : Int) < 16 := by omega
    obtain ⟨t, ht, hte⟩ : ∃ t : Nat, wrap64 (2 ^ n1) = (t : Int) ∧ t = 2 ^ n1 := ⟨_, pow_wrap64 n1 (by omega), rfl⟩
    obtain ⟨s, hs, hse⟩ : ∃ s : Nat, wrap64 (2 ^ n) = (s : Int) ∧ s = 2 ^ n := ⟨_, pow_wrap64 n hn, rfl⟩
    have ht2 : (t : Int) ≤ 65536 := le_cast (by rw [hte]; exact pow_le n1 (by omega))
    have hs2 : (s : Int) ≤ 65536 := le_cast (by rw [hse]; exact pow_le n hn)
    by_cases hvt : v < t
    · have d1 : decide (v < t) = true := by simp; omega
      have E : Hid (sgn n v = (v : Int) - ((s : Int) - 1)) := by
        show sgn n v = _
        unfold sgn
        rw [if_pos ⟨hpos, by rw [← hn1e, ← hte]; exact hvt⟩, hse, pow_cast]
      rw [E.out] at FIN
      clear hte hse hn1e hvt hpos
      go_wp2_with fail
      go_ret
      exact FIN.out
    · have d1 : decide (v < t) = false := by simp; omega
      have E : Hid (sgn n v = (v : Int)) := by
        show sgn n v = _
        unfold sgn
        rw [if_neg (by rw [← hn1e, ← hte]; exact fun e => hvt e.2)]
      rw [E.out] at FIN
      clear hte hse hn1e hvt hpos
      go_wp2_with fail
      go_ret
      exact FIN.out
  · obtain rfl : n = 0 := by omega
    have E : sgn 0 v = (v : Int) := by unfold sgn; rw [if_neg (by omega)]
    rw [E] at FIN
    clear hpos E
    go_wp2_with fail
    go_ret
    exact FIN.out

/-- Signed numbers of given sizes out of a string of L bits that write X; whether there are enough bits. -/
def numsOf : List Nat → Nat → Nat → List Int × Bool
  | [], _, _ => ([], true)
  | n :: ns, L, X => if L < n then ([], false) else (sgn n (X / 2 ^ (L - n)) :: (numsOf ns (L - n) (X % 2 ^ (L - n))).1, (numsOf ns (L - n) (X % 2 ^ (L - n))).2)

/-- At the head of a round of spec.Numbers. -/
def SNRel (w : World) (base : Option Addr) (cap : Nat) (data : List UInt8) (ns : List Nat) (R : List Int × Bool) (gk : Nat) (v4 v15 : Value) (wr : World) : Prop :=
  ∃ (sv : Value) (i : Nat) (acc : List Int) (p u L X : Nat), sv = v4 ∧ v15 = .int .i64 (i : Int) ∧ i + gk = ns.length ∧ acc.length = i ∧ SB wr w.heap.size base cap data p u false ∧ Chg (fun _ => False) w wr ∧
    wr.ownsRow (w.heap.size + 1) 3 1 sv acc.length (acc.map fun n : Int => .int .i64 n) ∧ sl (data.drop p) u = (L, X) ∧ X < 2 ^ L ∧
    (acc ++ (numsOf (ns.drop i) L X).1, (numsOf (ns.drop i) L X).2) = R

def SNumsPost (w : World) (R : List Int × Bool) (e : Ending) (w' : World) : Prop :=
  Chg (fun _ => False) w w' ∧ ∃ v, w'.ownsRow (w.heap.size + 1) 3 1 v R.1.length (R.1.map fun n : Int => .int .i64 n) ∧ e = .returned (.tuple #[v, .bool R.2])

/-- A number read: the next round, ahead of the append. -/
theorem snrel_next {w w1 w2 : World} {base : Option Addr} {cap : Nat} {data : List UInt8} {ns : List Nat} {acc : List Int} {R : List Int × Bool} {i gk p' u' L X n : Nat} {v4 v' : Value} (hb : Bytes w (fun k => k < w.heap.size) base data)
    (hik : i + (gk + 1) = ns.length) (hacc : acc.length = i) (hi : i < ns.length) (hn : ns[i] = n) (hX : X < 2 ^ L)
    (hR : (acc ++ (numsOf (ns.drop i) L X).1, (numsOf (ns.drop i) L X).2) = R) (S : SB w1 w.heap.size base cap data p' u' false) (hC : Chg (fun _ => False) w w1) (hnL : n ≤ L) (hs : sl (data.drop p') u' = (L - n, X % 2 ^ (L - n)))
    (hown : w2.ownsRow (w.heap.size + 1) 3 1 v' (acc.length + 1) (acc.map (fun n : Int => .int .i64 n) ++ [.int .i64 (sgn n (X / 2 ^ (L - n)))])) (o : Obj) (hg : (w1.alloc o).grownBy w2 v4.ownBlock) (hv4 : ∀ k, v4.ownBlock = some k → w.heap.size + 1 ≤ k) :
    SNRel w base cap data ns R gk v' (.int .i64 ((i : Int) + 1)) w2 := by
  have hC2 : Chg (fun k => some k = v4.ownBlock) (w1.alloc o) w2 := Chg.ofGrown hg
  have hne : ¬ some w.heap.size = v4.ownBlock := fun e => by have := hv4 _ e.symm; omega
  have hCw : Chg (fun _ => False) w w2 := (hC.alloc o).transNew hC2 (fun k hk e => by have := hv4 _ e.symm; omega)
  refine ⟨v', i + 1, acc ++ [sgn n (X / 2 ^ (L - n))], p', u', L - n, X % 2 ^ (L - n), rfl, rfl, by omega, by simp [hacc], ⟨(S.blk.alloc o).chg hC2 hne, (hb.chg hCw (fun _ _ h => h)).mono (fun k hk => by omega), S.hp, S.hu, S.hcap, S.hmax⟩, hCw, by simpa using hown, hs, Nat.mod_lt _ (Nat.two_pow_pos _), ?_⟩
  rw [← hR, List.drop_eq_getElem_cons hi, hn]
  simp only [numsOf]
  rw [if_neg (by omega)]
  simp

set_option maxRecDepth 100000 in
set_option maxHeartbeats 4000000 in
theorem specNumbers_any (base : Option Addr) (cap : Nat) (data : List UInt8) (wb : Option Addr) (wc : Nat) (ns : List Nat) (w : World) (hc : data.length ≤ cap) (hm : cap ≤ 4611686018427387904) (hb : Bytes w (fun k => k < w.heap.size) base data)
    (hwc : ns.length ≤ wc) (hwm : wc ≤ 4611686018427387904) (hr : Row w (fun k => k < w.heap.size) .u8 wb ns) (hns : ∀ n ∈ ns, n ≤ 16) (hsz : ns.length ≤ 2147483647) :
    Calls Tryd.prog 17 #[.slice base data.length cap, .slice wb ns.length wc] w (SNumsPost w (numsOf ns (strm data).1 (strm data).2)) := by
  obtain ⟨i0, hi0, hz0, hz1, hz2⟩ := info_parts info3
  have HIN := Lib.hid (And.intro hb (And.intro hr (And.intro hns (And.intro hc hm))))
  have HI := Lib.hid (And.intro hi0 (And.intro hz0 (And.intro hz1 hz2)))
  obtain ⟨g, hg⟩ : ∃ g, w.heap.size = g := ⟨_, rfl⟩
  clear hi0 hz0 hz1 hz2 hb hr hns
  have hli : (ns.length : Int) ≤ 2147483647 := by omega
  clear hc hm hwm
  go_enter Tryd.func17, Tryd.ntmps17
  go_wp2_with fail
  have START : Hid (SNRel w base cap data ns (numsOf ns (strm data).1 (strm data).2) ns.length (.slice none 0 0) (.int .i64 0) (w.alloc (.cells #[.slice base data.length cap, .int .i64 0, .int .i64 0, .bool false] 69))) :=
    ⟨.slice none 0 0, 0, [], 0, 0, (strm data).1, (strm data).2, rfl, rfl, by omega, rfl, ⟨Blk.ofNew w _ 69 4 _ (fun k hk => by
      match k, hk with
      | 0, _ => rfl
      | 1, _ => rfl
      | 2, _ => rfl
      | 3, _ => rfl), (HIN.out.1.chg ((Chg.refl (fun _ => False) w).alloc _) (fun _ _ h => h)).mono (fun k hk => by omega), Nat.zero_le _, by decide, HIN.out.2.2.2.1, HIN.out.2.2.2.2⟩, (Chg.refl _ w).alloc _, World.ownsRow_nil _ _ _ _, by rw [sl_zero]; rfl, strm_lt _ _ (Nat.le_refl _), rfl⟩
  generalize numsOf ns (strm data).1 (strm data).2 = R at *
  go_loopg [4, 15] ns.length (fun k v4 v15 wr => SNRel w base cap data ns R k v4 v15 wr)
  case atStart => exact START.out
  case round =>
    clear START
    obtain ⟨sv, i, acc, p, u, L, X, rfl, rfl, hik, hacc, S, hC, hown, hs, hX, hR⟩ := hrel
    by_cases hi : i < ns.length
    · have d1 : decide (i < ns.length) = true := by simp; omega
      obtain ⟨kk, rfl⟩ : ∃ kk, gk = kk + 1 := ⟨gk - 1, by omega⟩
      obtain ⟨gb, o, rfl, hgb, cw⟩ := (HIN.out.2.1.chg hC (fun _ _ h => h)).at i hi
      obtain ⟨n, hn, hn16⟩ : ∃ n, ns[i] = n ∧ n ≤ 16 := ⟨_, rfl, HIN.out.2.2.1 _ (List.getElem_mem hi)⟩
      rw [hn] at cw
      have hni : (n : Int) ≤ 16 := by omega
      have NUM := signed_any w.heap.size base cap data wr p u L X n S hs hn16 hX
      rw [hg] at NUM
      have HX := Lib.hid (And.intro hik (And.intro hacc (And.intro hn (And.intro hX (And.intro hR (And.intro hC hown))))))
      clear hik hacc hn hX hR hC S hs hown
      go_wp2_with fail
      refine NUM.mono ?_
      clear NUM cw
      rintro e w1 ⟨hC1, p', u', fl', S1, ⟨hnL, rfl, rfl, hs1⟩ | ⟨hnL, rfl, v, rfl⟩⟩
      · obtain ⟨val, hval⟩ : ∃ val, sgn n (X / 2 ^ (L - n)) = val := ⟨_, rfl⟩
        rw [hval]
        have cf : w1.cell? ⟨g, 3, none⟩ = some (.bool false) := S1.blk.at 3 (by decide) rfl
        have hC1' : Chg (fun k => k = w.heap.size) wr w1 := by rw [hg]; exact hC1
        have OWN1 := Lib.hid (owns_chg HX.out.2.2.2.2.2.2 hC1' (fun k hk e => by omega))
        have CW1 : Hid (Chg (fun _ => False) w w1) := HX.out.2.2.2.2.2.1.transNew hC1' (fun k hk e => by omega)
        have NEXT : Hid (∀ v' w2, w2.ownsRow (w.heap.size + 1) 3 1 v' (acc.length + 1) (acc.map (fun n : Int => .int .i64 n) ++ [.int .i64 val]) → (w1.alloc (.cells #[.int .i64 val] 3)).grownBy w2 sv.ownBlock → SNRel w base cap data ns R kk v' (.int .i64 ((i : Int) + 1)) w2) := by
          intro v' w2 h1 h2
          refine snrel_next HIN.out.1 HX.out.1 HX.out.2.1 hi HX.out.2.2.1 HX.out.2.2.2.1 HX.out.2.2.2.2.1 (by rw [hg]; exact S1) CW1.out hnL hs1 (by rw [hval]; exact h1) _ h2 (fun k hk => (HX.out.2.2.2.2.2.2.lt k hk).1)
        have hsz1 : g + 1 ≤ w1.heap.size := by rw [← hg]; exact Nat.succ_le_of_lt (Nat.lt_of_lt_of_le (by rw [hg]; exact S1.blk.lt) (Nat.le_refl _))
        have hal : acc.length ≤ 2147483647 := by rw [HX.out.2.1]; omega
        rw [hg] at OWN1
        clear hC1 hC1' S1 hs1
        go_wp2_with (at_builtin; refine wpList_append_own _ rfl _ _ 44 rfl (g + 1) 3 i0 (.int .i64 0) 1 8 Tryd.underlying44 HI.out.1 HI.out.2.1 HI.out.2.2.1 HI.out.2.2.2 rfl (by decide) _ _ _ rfl (OWN1.out.alloc _) ⟨w1.heap.size, 0, none⟩ 1 1 [.int .i64 val] rfl rfl ?c1 ?c2 ?c3 ?c4 ?c5 ?_)
        case c1 =>
          intro j u hj
          match j, hj with
          | 0, hj => simp at hj; subst hj; simp [Addr.add]
        case c2 => intro u hu; simp at hu; subst hu; rfl
        case c3 => unfold maxLen; omega
        case c4 => omega
        case c5 => simp; omega
        · intro v' w2 hown' hgrow _
          have FIN := Lib.hid (NEXT.out v' w2 (by rw [hg]; exact hown') hgrow)
          clear hown' hgrow NEXT OWN1 CW1 HX
          go_wp2_with fail
          go_roundg kk
          case measure => omega
          case rel => exact FIN.out
      · have cf : w1.cell? ⟨g, 3, none⟩ = some (.bool true) := S1.blk.at 3 (by decide) rfl
        have hC1' : Chg (fun k => k = w.heap.size) wr w1 := by rw [hg]; exact hC1
        have FIN : Hid (SNumsPost w R (.returned (.tuple #[sv, .bool false])) w1) := by
          have hR := HX.out.2.2.2.2.1
          rw [List.drop_eq_getElem_cons hi, HX.out.2.2.1] at hR
          simp only [numsOf] at hR
          rw [if_pos hnL] at hR
          simp only [List.append_nil] at hR
          rw [← hR]
          exact ⟨HX.out.2.2.2.2.2.1.transNew hC1' (fun k hk e => by omega), sv, owns_chg HX.out.2.2.2.2.2.2 hC1' (fun k hk e => by omega), rfl⟩
        clear hC1 hC1' S1 HX
        go_wp2_with fail
        go_ret2
        exact FIN.out
    · have d1 : decide (i < ns.length) = false := by simp; omega
      have FIN : Hid (SNumsPost w R (.returned (.tuple #[sv, .bool true])) wr) := by
        rw [List.drop_eq_nil_of_le (by omega)] at hR
        simp only [numsOf, List.append_nil] at hR
        rw [← hR]
        exact ⟨hC, sv, hown, rfl⟩
      clear hik hacc S hC hown hs hX hR
      go_wp2_with fail
      go_ret2
      exact FIN.out
end Go.Proofs.YtkkplbfbhmlnoaaDoor
