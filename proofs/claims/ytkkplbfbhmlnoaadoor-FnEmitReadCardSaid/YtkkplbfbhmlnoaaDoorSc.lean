/- spec.Bits: the numbers that it returns. Conditions: the arguments are slices; each width is 1 to 16; at most 2147483647 widths. -/
import Derived.Test.YtkkplbfbhmlnoaaDoorSb
import Derived.OwnWalk
namespace Go.Proofs.YtkkplbfbhmlnoaaDoor
open Go.RowKit

/-- A slice of integers that holds zs. -/
def Row (w : World) (ok : Nat → Prop) (k : IntKind) (base : Option Addr) (zs : List Nat) : Prop :=
  zs = [] ∨ ∃ g o, base = some ⟨g, o, none⟩ ∧ ok g ∧ g < w.heap.size ∧ ∀ j (h : j < zs.length), w.cell? ⟨g, o + j, none⟩ = some (.int k (zs[j] : Int))
theorem Row.chg {w w' : World} {ok : Nat → Prop} {k : IntKind} {base : Option Addr} {zs : List Nat} (h : Row w ok k base zs) {S : Nat → Prop} (hc : Chg S w w') (hS : ∀ k, ok k → ¬ S k) : Row w' ok k base zs := by
  rcases h with h | ⟨g, o, hb, hg, hlt, hcell⟩
  · exact .inl h
  · exact .inr ⟨g, o, hb, hg, Nat.lt_of_lt_of_le hlt hc.size, fun j hj => by rw [hc.cell (p := ⟨g, o + j, none⟩) hlt (hS g hg)]; exact hcell j hj⟩
theorem Row.at {w : World} {ok : Nat → Prop} {k : IntKind} {base : Option Addr} {zs : List Nat} (h : Row w ok k base zs) (i : Nat) (hi : i < zs.length) : ∃ g o, base = some ⟨g, o, none⟩ ∧ ok g ∧ w.cell? ⟨g, o + i, none⟩ = some (.int k (zs[i] : Int)) := by
  rcases h with h | ⟨g, o, hb, hg, _, hcell⟩
  · subst h; simp at hi
  · exact ⟨g, o, hb, hg, hcell i hi⟩

/-- Numbers of given widths out of a string of L bits that write X; whether there are enough bits. -/
def bitsOf : List Nat → Nat → Nat → List Nat × Bool
  | [], _, _ => ([], true)
  | n :: ns, L, X => if L < n then ([], false) else (X / 2 ^ (L - n) :: (bitsOf ns (L - n) (X % 2 ^ (L - n))).1, (bitsOf ns (L - n) (X % 2 ^ (L - n))).2)

theorem Chg.ofGrown {w w' : World} {row : Option Nat} (h : w.grownBy w' row) : Chg (fun k => Option.some k = row) w w' := ⟨h.os, h.tape, h.output, h.size, fun k hk hS => h.block k hk hS⟩
/-- A row of one's own behind a change elsewhere. -/
theorem owns_chg {w w' : World} {B e sz n : Nat} {v : Value} {xs : List Value} (h : w.ownsRow B e sz v n xs) {S : Nat → Prop} (hc : Chg S w w') (hS : ∀ k, B ≤ k → ¬ S k) : w'.ownsRow B e sz v n xs := by
  refine ⟨h.1, ?_⟩
  rcases h.2 with h2 | ⟨g, cap, cur, hv, hb, hg, r⟩
  · exact .inl h2
  · have hlt : g < w.heap.size := by
      rcases Nat.lt_or_ge g w.heap.size with h' | h'
      · exact h'
      · rw [Array.getElem?_eq_none h'] at hg; cases hg
    exact .inr ⟨g, cap, cur, hv, hb, by rw [hc.block g hlt (hS g hb)]; exact hg, r⟩

/-- At the head of a round of spec.Bits. -/
def SRel (w : World) (base : Option Addr) (cap : Nat) (data : List UInt8) (ns : List Nat) (R : List Nat × Bool) (gk : Nat) (v4 v15 : Value) (wr : World) : Prop :=
  ∃ (sv : Value) (i : Nat) (acc : List Nat) (p u L X : Nat), sv = v4 ∧ v15 = .int .i64 (i : Int) ∧ i + gk = ns.length ∧ acc.length = i ∧ SB wr w.heap.size base cap data p u false ∧ Chg (fun _ => False) w wr ∧
    wr.ownsRow (w.heap.size + 1) 3 1 sv acc.length (acc.map fun n : Nat => .int .i64 (n : Int)) ∧ sl (data.drop p) u = (L, X) ∧ X < 2 ^ L ∧
    (acc ++ (bitsOf (ns.drop i) L X).1, (bitsOf (ns.drop i) L X).2) = R

def SBitsPost (w : World) (R : List Nat × Bool) (e : Ending) (w' : World) : Prop :=
  Chg (fun _ => False) w w' ∧ ∃ v, w'.ownsRow (w.heap.size + 1) 3 1 v R.1.length (R.1.map fun n : Nat => .int .i64 (n : Int)) ∧ e = .returned (.tuple #[v, .bool R.2])

theorem info3 : (Tryd.prog.info? 3).map (fun i => (i.zero, i.size, i.bytes)) = some (some (.int .i64 0), 1, 8) := by kernel_rfl

/-- A number read: the next round, ahead of the append. -/
theorem srel_next {w w1 w2 : World} {base : Option Addr} {cap : Nat} {data : List UInt8} {ns acc : List Nat} {R : List Nat × Bool} {i gk p' u' L X n : Nat} {v4 v' : Value} (hb : Bytes w (fun k => k < w.heap.size) base data)
    (hik : i + (gk + 1) = ns.length) (hacc : acc.length = i) (hi : i < ns.length) (hn : ns[i] = n) (hX : X < 2 ^ L)
    (hR : (acc ++ (bitsOf (ns.drop i) L X).1, (bitsOf (ns.drop i) L X).2) = R) (S : SB w1 w.heap.size base cap data p' u' false) (hC : Chg (fun _ => False) w w1) (hnL : n ≤ L) (hs : sl (data.drop p') u' = (L - n, X % 2 ^ (L - n)))
    (hown : w2.ownsRow (w.heap.size + 1) 3 1 v' (acc.length + 1) (acc.map (fun n : Nat => .int .i64 (n : Int)) ++ [.int .i64 ((X / 2 ^ (L - n) : Nat) : Int)])) (o : Obj) (hg : (w1.alloc o).grownBy w2 v4.ownBlock) (hv4 : ∀ k, v4.ownBlock = some k → w.heap.size + 1 ≤ k) :
    SRel w base cap data ns R gk v' (.int .i64 ((i : Int) + 1)) w2 := by
  have hC2 : Chg (fun k => some k = v4.ownBlock) (w1.alloc o) w2 := Chg.ofGrown hg
  have hne : ¬ some w.heap.size = v4.ownBlock := fun e => by have := hv4 _ e.symm; omega
  have hCw : Chg (fun _ => False) w w2 := (hC.alloc o).transNew hC2 (fun k hk e => by have := hv4 _ e.symm; omega)
  refine ⟨v', i + 1, acc ++ [X / 2 ^ (L - n)], p', u', L - n, X % 2 ^ (L - n), rfl, rfl, by omega, by simp [hacc], ⟨(S.blk.alloc o).chg hC2 hne, (hb.chg hCw (fun _ _ h => h)).mono (fun k hk => by omega), S.hp, S.hu, S.hcap, S.hmax⟩, hCw, by simpa using hown, hs, Nat.mod_lt _ (Nat.two_pow_pos _), ?_⟩
  rw [← hR, List.drop_eq_getElem_cons hi, hn]
  simp only [bitsOf]
  rw [if_neg (by omega)]
  simp

set_option maxRecDepth 100000 in
set_option maxHeartbeats 4000000 in
theorem specBits_any (base : Option Addr) (cap : Nat) (data : List UInt8) (wb : Option Addr) (wc : Nat) (ns : List Nat) (w : World) (hc : data.length ≤ cap) (hm : cap ≤ 9223372036854775807) (hb : Bytes w (fun k => k < w.heap.size) base data)
    (hwc : ns.length ≤ wc) (hwm : wc ≤ 9223372036854775807) (hr : Row w (fun k => k < w.heap.size) .i32 wb ns) (hns : ∀ n ∈ ns, 1 ≤ n ∧ n ≤ 16) (hsz : ns.length ≤ 2147483647) :
    Calls Tryd.prog 15 #[.slice base data.length cap, .slice wb ns.length wc] w (SBitsPost w (bitsOf ns (strm data).1 (strm data).2)) := by
  obtain ⟨i0, hi0, hz0, hz1, hz2⟩ := info_parts info3
  have HIN := Lib.hid (And.intro hb (And.intro hr (And.intro hns (And.intro hc hm))))
  have HI := Lib.hid (And.intro hi0 (And.intro hz0 (And.intro hz1 hz2)))
  obtain ⟨g, hg⟩ : ∃ g, w.heap.size = g := ⟨_, rfl⟩
  clear hi0 hz0 hz1 hz2 hb hr hns
  have hli : (ns.length : Int) ≤ 2147483647 := by omega
  clear hc hm hwm
  go_enter Tryd.func15, Tryd.ntmps15
  go_wp2_with fail
  have START : Hid (SRel w base cap data ns (bitsOf ns (strm data).1 (strm data).2) ns.length (.slice none 0 0) (.int .i64 0) (w.alloc (.cells #[.slice base data.length cap, .int .i64 0, .int .i64 0, .bool false] 69))) :=
    ⟨.slice none 0 0, 0, [], 0, 0, (strm data).1, (strm data).2, rfl, rfl, by omega, rfl, ⟨Blk.ofNew w _ 69 4 _ (fun k hk => by
      match k, hk with
      | 0, _ => rfl
      | 1, _ => rfl
      | 2, _ => rfl
      | 3, _ => rfl), (HIN.out.1.chg ((Chg.refl (fun _ => False) w).alloc _) (fun _ _ h => h)).mono (fun k hk => by omega), Nat.zero_le _, by decide, HIN.out.2.2.2.1, HIN.out.2.2.2.2⟩, (Chg.refl _ w).alloc _, World.ownsRow_nil _ _ _ _, by rw [sl_zero]; rfl, strm_lt _ _ (Nat.le_refl _), rfl⟩
  generalize bitsOf ns (strm data).1 (strm data).2 = R at *
  go_loopg [4, 15] ns.length (fun k v4 v15 wr => SRel w base cap data ns R k v4 v15 wr)
  case atStart => exact START.out
  case round =>
    clear START
    obtain ⟨sv, i, acc, p, u, L, X, rfl, rfl, hik, hacc, S, hC, hown, hs, hX, hR⟩ := hrel
    by_cases hi : i < ns.length
    · have d1 : decide (i < ns.length) = true := by simp; omega
      obtain ⟨kk, rfl⟩ : ∃ kk, gk = kk + 1 := ⟨gk - 1, by omega⟩
      obtain ⟨gb, o, rfl, hgb, cw⟩ := (HIN.out.2.1.chg hC (fun _ _ h => h)).at i hi
      obtain ⟨n, hn, hn1, hn16⟩ : ∃ n, ns[i] = n ∧ 1 ≤ n ∧ n ≤ 16 := ⟨_, rfl, HIN.out.2.2.1 _ (List.getElem_mem hi)⟩
      rw [hn] at cw
      have hni : (n : Int) ≤ 16 := by omega
      have NUM := number_any w.heap.size base cap data wr p u L X n S hs hn16 hX
      rw [hg] at NUM
      have HX := Lib.hid (And.intro hik (And.intro hacc (And.intro hn (And.intro hX (And.intro hR (And.intro hC hown))))))
      clear hik hacc hn hX hR hC S hs hown
      go_wp2_with fail
      refine NUM.mono ?_
      clear NUM cw
      rintro e w1 ⟨hC1, p', u', fl', S1, ⟨hnL, rfl, rfl, hs1, hv1⟩ | ⟨hnL, rfl, v, _, rfl⟩⟩
      · obtain ⟨val, hval⟩ : ∃ val, X / 2 ^ (L - n) = val := ⟨_, rfl⟩
        rw [hval]
        have cf : w1.cell? ⟨g, 3, none⟩ = some (.bool false) := S1.blk.at 3 (by decide) rfl
        have hC1' : Chg (fun k => k = w.heap.size) wr w1 := by rw [hg]; exact hC1
        have OWN1 := Lib.hid (owns_chg HX.out.2.2.2.2.2.2 hC1' (fun k hk e => by omega))
        have CW1 : Hid (Chg (fun _ => False) w w1) := HX.out.2.2.2.2.2.1.transNew hC1' (fun k hk e => by omega)
        have NEXT : Hid (∀ v' w2, w2.ownsRow (w.heap.size + 1) 3 1 v' (acc.length + 1) (acc.map (fun n : Nat => .int .i64 (n : Int)) ++ [.int .i64 (val : Int)]) → (w1.alloc (.cells #[.int .i64 (val : Int)] 3)).grownBy w2 sv.ownBlock → SRel w base cap data ns R kk v' (.int .i64 ((i : Int) + 1)) w2) := by
          intro v' w2 h1 h2
          refine srel_next HIN.out.1 HX.out.1 HX.out.2.1 hi HX.out.2.2.1 HX.out.2.2.2.1 HX.out.2.2.2.2.1 (by rw [hg]; exact S1) CW1.out hnL hs1 (by rw [hval]; exact h1) _ h2 (fun k hk => (HX.out.2.2.2.2.2.2.lt k hk).1)
        have hsz1 : g + 1 ≤ w1.heap.size := by rw [← hg]; exact Nat.succ_le_of_lt (Nat.lt_of_lt_of_le (by rw [hg]; exact S1.blk.lt) (Nat.le_refl _))
        have hal : acc.length ≤ 2147483647 := by rw [HX.out.2.1]; omega
        rw [hg] at OWN1
        clear hC1 hC1' S1 hs1 hv1
        go_wp2_with (at_builtin; refine wpList_append_own _ rfl _ _ 44 rfl (g + 1) 3 i0 (.int .i64 0) 1 8 Tryd.underlying44 HI.out.1 HI.out.2.1 HI.out.2.2.1 HI.out.2.2.2 rfl (by decide) _ _ _ rfl (OWN1.out.alloc _) ⟨w1.heap.size, 0, none⟩ 1 1 [.int .i64 (val : Int)] rfl rfl ?c1 ?c2 ?c3 ?c4 ?c5 ?_)
        case c1 =>
          intro j u hj
          match j, hj with
          | 0, hj => simp at hj; subst hj; simp [Addr.add]
        case c2 => intro u hu; simp at hu; subst hu; rfl
        case c3 => unfold maxLen; omega
        case c4 => omega
        case c5 => simp; omega
        · intro v' w2 hown' hgrow _
          have FIN := Lib.hid (NEXT.out v' w2 (by rw [hg]; exact hown') hgrow)
          clear hown' hgrow NEXT OWN1 CW1 HX
          go_wp2_with fail
          go_roundg kk
          case measure => omega
          case rel => exact FIN.out
      · have cf : w1.cell? ⟨g, 3, none⟩ = some (.bool true) := S1.blk.at 3 (by decide) rfl
        have hC1' : Chg (fun k => k = w.heap.size) wr w1 := by rw [hg]; exact hC1
        have FIN : Hid (SBitsPost w R (.returned (.tuple #[sv, .bool false])) w1) := by
          have hR := HX.out.2.2.2.2.1
          rw [List.drop_eq_getElem_cons hi, HX.out.2.2.1] at hR
          simp only [bitsOf] at hR
          rw [if_pos hnL] at hR
          simp only [List.append_nil] at hR
          rw [← hR]
          exact ⟨HX.out.2.2.2.2.2.1.transNew hC1' (fun k hk e => by omega), sv, owns_chg HX.out.2.2.2.2.2.2 hC1' (fun k hk e => by omega), rfl⟩
        clear hC1 hC1' S1 HX
        go_wp2_with fail
        go_ret2
        exact FIN.out
    · have d1 : decide (i < ns.length) = false := by simp; omega
      have FIN : Hid (SBitsPost w R (.returned (.tuple #[sv, .bool true])) wr) := by
        rw [List.drop_eq_nil_of_le (by omega)] at hR
        simp only [bitsOf, List.append_nil] at hR
        rw [← hR]
        exact ⟨hC, sv, hown, rfl⟩
      clear hik hacc S hC hown hs hX hR
      go_wp2_with fail
      go_ret2
      exact FIN.out
end Go.Proofs.YtkkplbfbhmlnoaaDoor
