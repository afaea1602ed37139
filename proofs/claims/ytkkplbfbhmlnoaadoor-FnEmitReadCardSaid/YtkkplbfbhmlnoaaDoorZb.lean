/- ZZBits: the numbers that it returns. Conditions: the arguments are slices; each width is 1 to 16; at most 2147483647 widths; the three variables are laid. -/
import Derived.Test.YtkkplbfbhmlnoaaDoorSc
import Derived.Test.YtkkplbfbhmlnoaaDoorQd
namespace Go.Proofs.YtkkplbfbhmlnoaaDoor
open Go.RowKit

theorem Src.keep {w w' : World} {b r : Nat} {a1 a2 : Addr} {f : Nat → Value} {base : Option Addr} {cap : Nat} {data rest : List UInt8} (h : Src w b r a1 a2 f base cap data rest) {S : Nat → Prop} (hC : Chg S w w') (h1 : ¬ S b) (h2 : ¬ S r) (hG : Glob w' a1 a2) (hD : Bytes w' (fun k => k ≠ b ∧ k ≠ r) base data) :
    Src w' b r a1 a2 f base cap data rest := by
  obtain ⟨i, j, p, bs, s, hr⟩ := h
  obtain ⟨q, hq⟩ := s.rb
  exact ⟨i, j, p, bs, ⟨hG, s.blk.chg hC h1, s.b3, s.r3, s.ne, s.rd, s.hi, s.hj, s.ij, s.j4, s.buf, ⟨q, hq.chg hC h2⟩, s.hp, s.hcap, s.hmax, hD⟩, hr⟩
theorem BSt.keep {w w' : World} {b r : Nat} {a1 a2 : Addr} {f : Nat → Value} {base : Option Addr} {cap : Nat} {data rest : List UInt8} {k A m : Nat} (h : BSt w b r a1 a2 base cap data f rest k A m) {S : Nat → Prop} (hC : Chg S w w') (h1 : ¬ S b) (h2 : ¬ S r) (hG : Glob w' a1 a2) (hD : Bytes w' (fun k => k ≠ b ∧ k ≠ r) base data) :
    BSt w' b r a1 a2 base cap data f rest k A m := ⟨h.src.keep hC h1 h2 hG hD, h.ha, h.hm, h.hk, h.alt, h.mlt⟩

/-- At the head of a round of ZZBits. -/
def ZRel (w : World) (a1 a2 : Addr) (base : Option Addr) (cap : Nat) (data : List UInt8) (ns : List Nat) (R : List Nat × Bool) (gk : Nat) (v7 v19 : Value) (wr : World) : Prop :=
  ∃ (sv : Value) (i : Nat) (acc : List Nat) (f : Nat → Value) (rest : List UInt8) (k A m L X : Nat), sv = v7 ∧ v19 = .int .i64 (i : Int) ∧ i + gk = ns.length ∧ acc.length = i ∧ BSt wr (w.heap.size + 1) w.heap.size a1 a2 base cap data f rest k A m ∧ k < 8 ∧ Chg (fun _ => False) w wr ∧
    wr.ownsRow (w.heap.size + 2) 36 1 sv acc.length (acc.map fun n : Nat => .int .u32 (n : Int)) ∧ left rest k A = (L, X) ∧
    (acc ++ (bitsOf (ns.drop i) L X).1, (bitsOf (ns.drop i) L X).2) = R

def ZBitsPost (w : World) (R : List Nat × Bool) (e : Ending) (w' : World) : Prop :=
  Chg (fun _ => False) w w' ∧ ∃ v er, w'.ownsRow (w.heap.size + 2) 36 1 v R.1.length (R.1.map fun n : Nat => .int .u32 (n : Int)) ∧ e = .returned (.tuple #[v, er]) ∧ ((R.2 = true ∧ er = .nilIface) ∨ (R.2 = false ∧ ∃ s, er = .iface 103 (.string s)))

theorem info36 : (Tryd.prog.info? 36).map (fun i => (i.zero, i.size, i.bytes)) = some (some (.int .u32 0), 1, 4) := by kernel_rfl

theorem zrel_next {w w1 w2 : World} {a1 a2 : Addr} {base : Option Addr} {cap : Nat} {data rest' : List UInt8} {ns acc : List Nat} {R : List Nat × Bool} {f' : Nat → Value} {i gk k' A' m' L X n : Nat} {sv v' : Value} (hG : Glob w a1 a2) (hb : Bytes w (fun k => k < w.heap.size) base data)
    (hik : i + (gk + 1) = ns.length) (hacc : acc.length = i) (hi : i < ns.length) (hn : ns[i] = n)
    (hR : (acc ++ (bitsOf (ns.drop i) L X).1, (bitsOf (ns.drop i) L X).2) = R) (S : BSt w1 (w.heap.size + 1) w.heap.size a1 a2 base cap data f' rest' k' A' m') (hk : k' < 8) (hC : Chg (fun _ => False) w w1) (hnL : n ≤ L) (hs : left rest' k' A' = (L - n, X % 2 ^ (L - n)))
    (hown : w2.ownsRow (w.heap.size + 2) 36 1 v' (acc.length + 1) (acc.map (fun n : Nat => .int .u32 (n : Int)) ++ [.int .u32 ((X / 2 ^ (L - n) : Nat) : Int)])) (o : Obj) (hg : (w1.alloc o).grownBy w2 sv.ownBlock) (hv4 : ∀ k, sv.ownBlock = some k → w.heap.size + 2 ≤ k) :
    ZRel w a1 a2 base cap data ns R gk v' (.int .i64 ((i : Int) + 1)) w2 := by
  have hC2 : Chg (fun k => some k = sv.ownBlock) (w1.alloc o) w2 := Chg.ofGrown hg
  have hC3 : Chg (fun k => some k = sv.ownBlock) w1 w2 := ((Chg.refl _ w1).alloc o).trans hC2
  have hne : ∀ j, j < w.heap.size + 2 → ¬ some j = sv.ownBlock := fun j hj e => by have := hv4 _ e.symm; omega
  have hCw : Chg (fun _ => False) w w2 := hC.transNew hC3 (fun k hk e => hne k (by omega) e)
  refine ⟨v', i + 1, acc ++ [X / 2 ^ (L - n)], f', rest', k', A', m', L - n, X % 2 ^ (L - n), rfl, rfl, by omega, by simp [hacc], S.keep hC3 (hne _ (by omega)) (hne _ (by omega)) (hG.chg hCw (fun _ _ h => h)) ((hb.chg hCw (fun _ _ h => h)).mono (fun k hk => by constructor <;> omega)), hk, hCw, by simpa using hown, hs, ?_⟩
  rw [← hR, List.drop_eq_getElem_cons hi, hn]
  simp only [bitsOf]
  rw [if_neg (by omega)]
  simp

set_option maxRecDepth 100000 in
set_option maxHeartbeats 4000000 in
theorem zzBits_any (a1 a2 : Addr) (base : Option Addr) (cap : Nat) (data : List UInt8) (wb : Option Addr) (wc : Nat) (ns : List Nat) (w : World) (hG : Glob w a1 a2) (hc : data.length ≤ cap) (hm : cap ≤ 9223372036854775807) (hb : Bytes w (fun k => k < w.heap.size) base data)
    (hwc : ns.length ≤ wc) (hr : Row w (fun k => k < w.heap.size) .i32 wb ns) (hns : ∀ n ∈ ns, 1 ≤ n ∧ n ≤ 16) (hsz : ns.length ≤ 2147483647) :
    Calls Tryd.prog 23 #[.slice base data.length cap, .slice wb ns.length wc] w (ZBitsPost w (bitsOf ns (strm data).1 (strm data).2)) := by
  obtain ⟨i0, hi0, hz0, hz1, hz2⟩ := info_parts info36
  have HIN := Lib.hid (And.intro hb (And.intro hr (And.intro hns (And.intro hc (And.intro hm hG)))))
  have HI := Lib.hid (And.intro hi0 (And.intro hz0 (And.intro hz1 hz2)))
  obtain ⟨g, hg⟩ : ∃ g, w.heap.size = g := ⟨_, rfl⟩
  clear hi0 hz0 hz1 hz2 hb hr hns hG
  have hli : (ns.length : Int) ≤ 2147483647 := by omega
  clear hc hm
  go_enter Tryd.func23, Tryd.ntmps23
  go_wp2_with fail
  refine (newReader _ _ _ _).mono ?_
  rintro e w1 ⟨rfl, hw1⟩
  have S1 : w1.heap.size = g + 1 := by rw [← hw1, World.size_alloc, hg]
  have R1 : Blk w1 g 3 (rdF (.slice base data.length cap) 0 (.int .i64 (-1))) := by
    rw [← hw1]
    have := Blk.ofNew w #[.slice base data.length cap, .int .i64 0, .int .i64 (-1)] 138 3 (rdF (.slice base data.length cap) 0 (.int .i64 (-1))) (fun k hk => by
      match k, hk with
      | 0, _ => rfl
      | 1, _ => rfl
      | 2, _ => rfl)
    rwa [hg] at this
  have C1 : Chg (fun _ => False) w w1 := by rw [← hw1]; exact (Chg.refl _ w).alloc _
  clear hw1
  have START : Hid (ZRel w a1 a2 base cap data ns (bitsOf ns (strm data).1 (strm data).2) ns.length (.slice none 0 0) (.int .i64 0) (w1.alloc (.cells (arr 9020 (f0 g)) 101))) := by
    have S : Src (w1.alloc (.cells (arr 9020 (f0 g)) 101)) (w.heap.size + 1) w.heap.size a1 a2 (f0 g) base cap data data := by
      have := src_new HIN.out.2.2.2.2.2 HIN.out.2.2.2.1 HIN.out.2.2.2.2.1 HIN.out.1 (C1.alloc (.cells (arr 9020 (f0 g)) 101)) (b := w.heap.size + 1) (r := w.heap.size) (by omega) (by omega) (by omega) (by
        rw [hg, ← S1]; exact Blk.ofNew w1 _ 101 9020 _ (fun k hk => arr_get _ _ _ hk)) (by rw [hg]; exact R1.alloc _)
      rw [hg] at this ⊢
      exact this
    refine ⟨.slice none 0 0, 0, [], f0 g, data, 0, 0, 0, (strm data).1, (strm data).2, rfl, rfl, by omega, rfl, ⟨S, rfl, rfl, rfl, by decide, by decide⟩, by decide, C1.alloc _, World.ownsRow_nil _ _ _ _, ?_, rfl⟩
    unfold left
    simp
  generalize bitsOf ns (strm data).1 (strm data).2 = R at *
  clear R1 C1
  go_wp2_with (first | (refine wpList_build rfl (.tmp 14) rfl _ rfl ?_) | (refine wpList_box rfl (.tmp 15) rfl _ rfl ?_))
  go_loopg [7, 19] ns.length (fun k v7 v19 wr => ZRel w a1 a2 base cap data ns R k v7 v19 wr)
  case atStart => exact START.out
  case round =>
    clear START
    obtain ⟨sv, i, acc, f, rest, k, A, m, L, X, rfl, rfl, hik, hacc, S, hk8, hC, hown, hs, hR⟩ := hrel
    by_cases hi : i < ns.length
    · have d1 : decide (i < ns.length) = true := by simp; omega
      obtain ⟨kk, rfl⟩ : ∃ kk, gk = kk + 1 := ⟨gk - 1, by omega⟩
      obtain ⟨gb, o, rfl, hgb, cw⟩ := (HIN.out.2.1.chg hC (fun _ _ h => h)).at i hi
      obtain ⟨n, hn, hn1, hn16⟩ : ∃ n, ns[i] = n ∧ 1 ≤ n ∧ n ≤ 16 := ⟨_, rfl, HIN.out.2.2.1 _ (List.getElem_mem hi)⟩
      rw [hn] at cw
      have hni : (n : Int) ≤ 16 := by omega
      have DEC := decode_any (w.heap.size + 1) w.heap.size a1 a2 base cap data wr f rest k A m n L X S hk8 hs hn16
      rw [hg] at DEC
      have HX := Lib.hid (And.intro hik (And.intro hacc (And.intro hn (And.intro hR (And.intro hC hown)))))
      clear hik hacc hn hR hC S hs hown hk8
      go_wp2_with fail
      refine DEC.mono ?_
      clear DEC cw
      rintro e w2 ⟨f', hC1, hf', ⟨hnL, rest', k', A', m', rfl, S', hk', hs'⟩ | ⟨hnL, s, rfl⟩⟩
      · obtain ⟨val, hval⟩ : ∃ val, X / 2 ^ (L - n) = val := ⟨_, rfl⟩
        rw [hval]
        have hC1' : Chg (BR (w.heap.size + 1) w.heap.size) wr w2 := by rw [hg]; exact hC1
        have OWN1 := Lib.hid (owns_chg HX.out.2.2.2.2.2 hC1' (fun k hk e => by rcases e with e | e <;> omega))
        have CW1 : Hid (Chg (fun _ => False) w w2) := HX.out.2.2.2.2.1.transNew hC1' (fun k hk e => by rcases e with e | e <;> omega)
        have NEXT : Hid (∀ v' w3, w3.ownsRow (w.heap.size + 2) 36 1 v' (acc.length + 1) (acc.map (fun n : Nat => .int .u32 (n : Int)) ++ [.int .u32 (val : Int)]) → (w2.alloc (.cells #[.int .u32 (val : Int)] 36)).grownBy w3 sv.ownBlock → ZRel w a1 a2 base cap data ns R kk v' (.int .i64 ((i : Int) + 1)) w3) := by
          intro v' w3 h1 h2
          refine zrel_next HIN.out.2.2.2.2.2 HIN.out.1 HX.out.1 HX.out.2.1 hi HX.out.2.2.1 HX.out.2.2.2.1 (by rw [hg]; exact S') hk' CW1.out hnL hs' (by rw [hval]; exact h1) _ h2 (fun k hk => (HX.out.2.2.2.2.2.lt k hk).1)
        have hsz1 : g + 2 ≤ w2.heap.size := by have := S'.src.blk.lt; omega
        have hal : acc.length ≤ 2147483647 := by rw [HX.out.2.1]; omega
        rw [hg] at OWN1
        clear hC1 hC1' S' hs' hf'
        go_wp2_with (at_builtin; refine wpList_append_own _ rfl _ _ 32 rfl (g + 2) 36 i0 (.int .u32 0) 1 4 Tryd.underlying32 HI.out.1 HI.out.2.1 HI.out.2.2.1 HI.out.2.2.2 rfl (by decide) _ _ _ rfl (OWN1.out.alloc _) ⟨w2.heap.size, 0, none⟩ 1 1 [.int .u32 (val : Int)] rfl rfl ?c1 ?c2 ?c3 ?c4 ?c5 ?_)
        case c1 =>
          intro j u hj
          match j, hj with
          | 0, hj => simp at hj; subst hj; simp [Addr.add]
        case c2 => intro u hu; simp at hu; subst hu; rfl
        case c3 => unfold maxLen; omega
        case c4 => omega
        case c5 => simp; omega
        · intro v' w3 hown' hgrow _
          have FIN := Lib.hid (NEXT.out v' w3 (by rw [hg]; exact hown') hgrow)
          clear hown' hgrow NEXT OWN1 CW1 HX
          go_wp2_with fail
          go_roundg kk
          case measure => omega
          case rel => exact FIN.out
      · have hC1' : Chg (BR (w.heap.size + 1) w.heap.size) wr w2 := by rw [hg]; exact hC1
        have FIN : Hid (ZBitsPost w R (.returned (.tuple #[sv, .iface 103 (.string s)])) w2) := by
          have hR := HX.out.2.2.2.1
          rw [List.drop_eq_getElem_cons hi, HX.out.2.2.1] at hR
          simp only [bitsOf] at hR
          rw [if_pos hnL] at hR
          simp only [List.append_nil] at hR
          rw [← hR]
          exact ⟨HX.out.2.2.2.2.1.transNew hC1' (fun k hk e => by rcases e with e | e <;> omega), sv, _, owns_chg HX.out.2.2.2.2.2 hC1' (fun k hk e => by rcases e with e | e <;> omega), rfl, .inr ⟨rfl, s, rfl⟩⟩
        clear hC1 hC1' HX hf'
        go_wp2_with fail
        go_ret2
        exact FIN.out
    · have d1 : decide (i < ns.length) = false := by simp; omega
      have FIN : Hid (ZBitsPost w R (.returned (.tuple #[sv, .nilIface])) wr) := by
        rw [List.drop_eq_nil_of_le (by omega)] at hR
        simp only [bitsOf, List.append_nil] at hR
        rw [← hR]
        exact ⟨hC, sv, _, hown, rfl, .inl ⟨rfl, rfl⟩⟩
      clear hik hacc S hC hown hs hR hk8
      go_wp2_with fail
      go_ret2
      exact FIN.out
end Go.Proofs.YtkkplbfbhmlnoaaDoor
