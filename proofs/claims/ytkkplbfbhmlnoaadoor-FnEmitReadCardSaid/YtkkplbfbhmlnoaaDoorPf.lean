/- laws.FnEmitRead: true of every argument. Conditions: the arguments are slices of numbers of 32 bits; the three variables are laid. -/
import Derived.Test.YtkkplbfbhmlnoaaDoorPe
import Derived.Test.YtkkplbfbhmlnoaaDoorZc
namespace Go.Proofs.YtkkplbfbhmlnoaaDoor
open Go.RowKit

theorem info21 : (Tryd.prog.info? 21).map (fun i => (i.zero, i.size, i.bytes)) = some (some (.int .i32 0), 1, 4) := by kernel_rfl

/-- A row of one's own, as a slice. -/
theorem owns_sl {w : World} {B e n : Nat} {v : Value} {xs : List Value} (h : w.ownsRow B e 1 v n xs) : ∃ base cap, v = .slice base n cap ∧ n ≤ cap ∧ cap ≤ 9223372036854775807 ∧ xs.length = n ∧
    ((n = 0 ∧ base = none) ∨ ∃ g, base = some ⟨g, 0, none⟩ ∧ B ≤ g ∧ g < w.heap.size ∧ ∀ (j : Nat) u, xs[j]? = some u → w.cell? ⟨g, j, none⟩ = some u) := by
  have hl : xs.length = n := by have := h.1; omega
  rcases h.2 with ⟨rfl, rfl⟩ | ⟨g, cap, cur, rfl, hb, hg, hn, hcm, _⟩
  · exact ⟨none, 0, rfl, Nat.le_refl _, by decide, hl, .inl ⟨rfl, rfl⟩⟩
  · refine ⟨_, cap, rfl, hn, hcm, hl, .inr ⟨g, rfl, hb, (Array.getElem?_eq_some_iff.1 hg).1, fun j u hj => ?_⟩⟩
    have := h.cells (g := g) rfl j u hj
    rw [addr_add, Nat.zero_add] at this
    exact this

theorem owns_bytes {w : World} {B : Nat} {v : Value} {l : List UInt8} (h : w.ownsRow B 5 1 v l.length (l.map bv)) : ∃ base cap, v = .slice base l.length cap ∧ l.length ≤ cap ∧ cap ≤ 9223372036854775807 ∧ Bytes w (fun k => k < w.heap.size) base l := by
  obtain ⟨base, cap, rfl, h1, h2, _, h3⟩ := owns_sl h
  refine ⟨base, cap, rfl, h1, h2, ?_⟩
  rcases h3 with ⟨h0, rfl⟩ | ⟨g, rfl, _, hg, hc⟩
  · exact .inl (List.eq_nil_of_length_eq_zero h0)
  · refine .inr ⟨g, 0, rfl, hg, hg, fun k hk => ?_⟩
    rw [Nat.zero_add]
    exact hc k _ (by rw [List.getElem?_map, List.getElem?_eq_getElem hk]; rfl)
theorem owns_row {w : World} {B e : Nat} {k : IntKind} {v : Value} {ns : List Nat} (h : w.ownsRow B e 1 v ns.length (ns.map fun n : Nat => .int k (n : Int))) : ∃ base cap, v = .slice base ns.length cap ∧ ns.length ≤ cap ∧ cap ≤ 9223372036854775807 ∧ Row w (fun k => k < w.heap.size) k base ns := by
  obtain ⟨base, cap, rfl, h1, h2, _, h3⟩ := owns_sl h
  refine ⟨base, cap, rfl, h1, h2, ?_⟩
  rcases h3 with ⟨h0, rfl⟩ | ⟨g, rfl, _, hg, hc⟩
  · exact .inl (List.eq_nil_of_length_eq_zero h0)
  · refine .inr ⟨g, 0, rfl, hg, hg, fun k hk => ?_⟩
    rw [Nat.zero_add]
    exact hc k _ (by rw [List.getElem?_map, List.getElem?_eq_getElem hk]; rfl)
theorem Row.grow {w W : World} {k : IntKind} {base : Option Addr} {ns : List Nat} (h : Row w (fun k => k < w.heap.size) k base ns) (hC : Chg (fun _ => False) w W) : Row W (fun k => k < W.heap.size) k base ns := by
  have := h.chg hC (fun _ _ h => h)
  rcases this with h | ⟨g, o, h1, h2, h3, h4⟩
  · exact .inl h
  · exact .inr ⟨g, o, h1, Nat.lt_of_lt_of_le h2 hC.size, h3, h4⟩

def LPost (w : World) (e : Ending) (w' : World) : Prop := e = .returned (.bool true) ∧ Chg (fun _ => False) w w'

/-- What is read back. -/
theorem read_back {cs ns : List Nat} {xs : List Nat} {q V : Nat} (hS : WSt xs q V (wlen (cs.zip ns) + 7) (wcat (cs.zip ns) * 128 + 127)) (hq : q < 8) (hle : cs.length = ns.length) (hcode : ∀ i (h1 : i < cs.length) (h2 : i < ns.length), isCode cs[i] ns[i]) :
    bitsOf ns (strm (wstuff xs)).1 (strm (wstuff xs)).2 = (cs, true) := by
  have h := hS.last hq (fun p hp => by
    obtain ⟨i, hi, rfl⟩ := List.getElem_of_mem hp
    rw [List.length_zip] at hi
    rw [List.getElem_zip]
    exact (hcode i (by omega) (by omega)).2.2)
  rw [strm_wstuff xs hS.hx]
  rwa [List.map_snd_zip (by omega), List.map_fst_zip (by omega)] at h

set_option maxRecDepth 100000 in
set_option maxHeartbeats 4000000 in
theorem lawEmit_any (a1 a2 : Addr) (cb nb : Option Addr) (cc nc : Nat) (cs ns : List Nat) (w : World) (hG : Glob w a1 a2) (hcc : cs.length ≤ cc) (hccm : cc ≤ 9223372036854775807) (hnc : ns.length ≤ nc) (hncm : nc ≤ 9223372036854775807) (hr : Row w (fun k => k < w.heap.size) .u32 cb cs) (hr2 : Row w (fun k => k < w.heap.size) .u32 nb ns)
    (hc32 : ∀ c ∈ cs, c < 4294967296) (hn32 : ∀ n ∈ ns, n < 4294967296) :
    Calls Tryd.prog 4 #[.slice cb cs.length cc, .slice nb ns.length nc] w (LPost w) := by
  have HIN := Lib.hid (And.intro hG (And.intro hr (And.intro hr2 (And.intro hc32 (And.intro hn32 (And.intro hcc hnc))))))
  have TRUE : Hid (∀ W, Chg (fun _ => False) w W → LPost w (.returned (.bool true)) W) := fun W hW => ⟨rfl, hW⟩
  obtain ⟨i0, hi0, hz0, hz1, hz2⟩ := info_parts info21
  have HI := Lib.hid (And.intro hi0 (And.intro hz0 (And.intro hz1 hz2)))
  have hcli : (cs.length : Int) ≤ 9223372036854775807 := by omega
  have hnli : (ns.length : Int) ≤ 9223372036854775807 := by omega
  clear hG hr hr2 hc32 hn32 hi0 hz0 hz1 hz2 hcc hccm hnc hncm
  go_enter Tryd.func4, Tryd.ntmps4
  by_cases hl1 : 2147483647 < cs.length
  · have d1 : decide (2147483647 < (cs.length : Int)) = true := by simp; omega
    clear hl1
    go_wp2_with fail
    go_ret
    exact TRUE.out _ (Chg.refl _ w)
  have d1 : decide (2147483647 < (cs.length : Int)) = false := by simp; omega
  by_cases hl2 : 2147483647 < ns.length
  · have d2 : decide (2147483647 < (ns.length : Int)) = true := by simp; omega
    clear hl1 hl2
    go_wp2_with fail
    go_ret
    exact TRUE.out _ (Chg.refl _ w)
  have d2 : decide (2147483647 < (ns.length : Int)) = false := by simp; omega
  have CO := Lib.hid (coded_any cb nb cc nc cs ns w HIN.out.2.2.2.2.2.1 HIN.out.2.2.2.2.2.2 (by omega) (by omega) HIN.out.2.1 HIN.out.2.2.1 HIN.out.2.2.2.1 HIN.out.2.2.2.2.1)
  have hcl : (cs.length : Int) ≤ 2147483647 := by omega
  have hnl : (ns.length : Int) ≤ 2147483647 := by omega
  have HLN : Hid (cs.length ≤ 2147483647 ∧ ns.length ≤ 2147483647) := ⟨by omega, by omega⟩
  clear hl1 hl2
  go_wp2_with fail
  refine CO.out.mono ?_
  clear CO
  rintro e w1 ⟨hC1, v5, ok, rfl, hok⟩
  have H1 := Lib.hid hC1
  cases ok
  · clear hC1 hok
    go_wp2_with fail
    go_ret
    exact TRUE.out _ H1.out
  · have HOK := Lib.hid (hok rfl)
    obtain ⟨N, hN⟩ : ∃ N, cs.length = N := ⟨_, rfl⟩
    have hN2 : ns.length = N := by rw [← hN]; exact HOK.out.1.symm
    have HN := Lib.hid (And.intro hN hN2)
    have hNi : (N : Int) ≤ 2147483647 := by omega
    have hNn : N ≤ 2147483647 := by omega
    rw [hN2] at d2 hnl hnli ⊢
    rw [hN] at d1 hcl hcli ⊢
    clear hC1 hok hN hN2
    obtain ⟨B, hB⟩ : ∃ B, w1.heap.size = B := ⟨_, rfl⟩
    go_wp2_with fail
    go_loopg [7, 32] N (fun gk v7 v32 wr => ∃ (i : Nat) (sv : Value), sv = v7 ∧ v32 = .int .i64 (i : Int) ∧ i + gk = N ∧ Hid (Chg (fun _ => False) w1 wr) ∧ Hid (wr.ownsRow B 21 1 sv i ((ns.take i).map fun n : Nat => .int .i32 (n : Int))))
    case atStart => exact ⟨0, _, rfl, rfl, by omega, Chg.refl _ w1, World.ownsRow_nil _ _ _ _⟩
    case round =>
      obtain ⟨i, sv, rfl, rfl, hik, HC, OWN⟩ := hrel
      have CW := Lib.hid (H1.out.trans HC.out)
      by_cases hi : i < N
      · have d3 : decide (i < N) = true := by simp; omega
        have hi1 : i < cs.length := by rw [HN.out.1]; exact hi
        have hi2 : i < ns.length := by rw [HN.out.2]; exact hi
        obtain ⟨g2, o2, rfl, hg2, k2⟩ := (HIN.out.2.2.1.chg CW.out (fun _ _ h => h)).at i hi2
        obtain ⟨hn1, hn16, _⟩ := HOK.out.2 i hi1 hi2
        obtain ⟨n, hn⟩ : ∃ n, ns[i] = n := ⟨_, rfl⟩
        rw [hn] at k2 hn1 hn16
        have TK : Hid ((ns.take (i + 1)).map (fun n : Nat => Value.int .i32 (n : Int)) = (ns.take i).map (fun n : Nat => Value.int .i32 (n : Int)) ++ [.int .i32 (n : Int)]) := by
          rw [← List.take_append_getElem hi2, List.map_append, hn]
          rfl
        have hni : (n : Int) ≤ 16 := by omega
        have hBs : B ≤ wr.heap.size := by rw [← hB]; exact HC.out.size
        clear hn
        go_wp2_with (at_builtin; refine wpList_append_own _ rfl _ _ 35 rfl B 21 i0 (.int .i32 0) 1 4 Tryd.underlying35 HI.out.1 HI.out.2.1 HI.out.2.2.1 HI.out.2.2.2 rfl (by decide) _ _ _ rfl (OWN.out.alloc _) ⟨wr.heap.size, 0, none⟩ 1 1 [.int .i32 (n : Int)] rfl rfl ?c1 ?c2 ?c3 ?c4 ?c5 ?_)
        case c1 =>
          intro j u hj
          match j, hj with
          | 0, hj => simp at hj; subst hj; simp [Addr.add]
        case c2 => intro u hu; simp at hu; subst hu; rfl
        case c3 => unfold maxLen; omega
        case c4 => omega
        case c5 => simp; omega
        · intro v' w3 hown' hgrow _
          have FIN : Hid (Chg (fun _ => False) w1 w3 ∧ w3.ownsRow B 21 1 v' (i + 1) ((ns.take (i + 1)).map fun n : Nat => .int .i32 (n : Int))) := by
            refine ⟨HC.out.transNew (((Chg.refl _ wr).alloc _).trans (Chg.ofGrown hgrow)) (fun k hk e => ?_), by rw [TK.out, List.map_take]; exact hown'⟩
            have := (OWN.out.lt k e.symm).1
            omega
          clear hown' hgrow OWN HC CW TK
          go_wp2_with fail
          go_roundg (gk - 1)
          case measure => omega
          case rel => exact ⟨i + 1, _, rfl, by go_num, by omega, FIN.out.1, FIN.out.2⟩
      · have d3 : decide (i < N) = false := by simp; omega
        have OW2 : wr.ownsRow B 21 1 sv ns.length (ns.map fun n : Nat => .int .i32 (n : Int)) := by
          have := OWN.out
          rw [List.take_of_length_le (by rw [HN.out.2]; omega)] at this
          rw [HN.out.2]
          have e : i = N := by omega
          rw [e] at this
          exact this
        obtain ⟨wb, wc, rfl, hwc, hwm, hrow⟩ := owns_row OW2
        have EM := implEmit cb nb cc nc cs ns wr HIN.out.2.2.2.2.2.1 (by rw [HOK.out.1]; exact HIN.out.2.2.2.2.2.2) (by rw [HN.out.1]; exact hNn) HOK.out.1 (HIN.out.2.1.grow CW.out) (HIN.out.2.2.1.grow CW.out) HOK.out.2
        rw [HN.out.1] at EM
        have EM := Lib.hid EM
        have HW := Lib.hid (And.intro hwc (And.intro hwm hrow))
        rw [HN.out.2]
        rw [HN.out.2] at hwc
        clear OW2 OWN hrow
        go_wp2_with fail
        refine EM.out.mono ?_
        clear EM
        rintro e w4 ⟨hC4, xs, q, V, v, hS, hq, rfl, hown⟩
        obtain ⟨base, cap, rfl, hb1, hb2, hby⟩ := owns_bytes hown
        have C4 := Lib.hid (CW.out.trans hC4)
        have IM := implBits_any a1 a2 base cap (wstuff xs) wb wc ns w4 (HIN.out.1.chg C4.out (fun _ _ h => h)) hb1 hb2 hby HW.out.1 (HW.out.2.2.grow hC4) (fun n hn => by
          obtain ⟨j, hj, rfl⟩ := List.getElem_of_mem hn
          have := HOK.out.2 j (by rw [HOK.out.1]; exact hj) hj
          exact ⟨this.1, this.2.1⟩) (by rw [HN.out.2]; exact hNn)
        rw [read_back hS hq HOK.out.1 HOK.out.2, HN.out.2] at IM
        have IM2 : Hid (Calls Tryd.prog 11 #[.slice base (wstuff xs).length cap, .slice wb N wc] w4 (fun e w' => Chg (fun _ => False) w4 w' ∧ ∃ v, w'.ownsRow (w4.heap.size + 2) 36 1 v cs.length (cs.map fun n : Nat => .int .u32 (n : Int)) ∧ e = .returned (.tuple #[v, .int .i64 0]))) := IM
        clear IM hC4 hS hq hown hby
        go_wp2_with fail
        refine IM2.out.mono ?_
        clear IM2
        rintro e w5 ⟨hC5, v10, hown10, rfl⟩
        obtain ⟨b10, c10, rfl, h101, h102, _, h103⟩ := owns_sl hown10
        have C5 := Lib.hid (C4.out.trans hC5)
        have CELLS : Hid (∀ (j : Nat) (h : j < cs.length), (∃ g, b10 = some ⟨g, 0, none⟩ ∧ w5.cell? ⟨g, j, none⟩ = some (.int .u32 (cs[j] : Int)))) := fun j h => by
          rcases h103 with ⟨h0, _⟩ | ⟨g, hg, _, _, hc⟩
          · omega
          · exact ⟨g, hg, hc j _ (by rw [List.getElem?_map, List.getElem?_eq_getElem h]; rfl)⟩
        rw [HN.out.1] at h101 ⊢
        clear hC5 hown10 h103
        go_wp2_with fail
        go_loopg [61] N (fun gk v wr' => ∃ j : Nat, v = .int .i64 (j : Int) ∧ j + gk = N ∧ w5 = wr')
        case atStart => exact ⟨0, rfl, by omega, rfl⟩
        case round =>
          obtain ⟨j, rfl, hjk, rfl⟩ := hrel
          by_cases hj : j < N
          · have d6 : decide (j < N) = true := by simp; omega
            have hj1 : j < cs.length := by rw [HN.out.1]; exact hj
            obtain ⟨g10, rfl, k10⟩ := CELLS.out j hj1
            obtain ⟨g1, o1, rfl, hg1, k1⟩ := (HIN.out.2.1.chg C5.out (fun _ _ h => h)).at j hj1
            obtain ⟨c, hc⟩ : ∃ c, cs[j] = c := ⟨_, rfl⟩
            rw [hc] at k1 k10
            clear hc
            go_wp2_with fail
            go_roundg (gk - 1)
            case measure => omega
            case rel => exact ⟨j + 1, by go_num, by omega, rfl⟩
          · have d6 : decide (j < N) = false := by simp; omega
            obtain ⟨s, hs⟩ : ∃ s, w5.heap.size = s := ⟨_, rfl⟩
            have c6 : Chg (fun _ => False) w5 ((w5.alloc (.cells #[.int .u32 1] 36)).alloc (.cells #[.int .u32 8] 36)) := ((Chg.refl _ w5).alloc _).alloc _
            have EM : Calls Tryd.prog 12 #[.slice (some ⟨s, 0, none⟩) 1 1, .slice (some ⟨s + 1, 0, none⟩) 1 1] ((w5.alloc (.cells #[.int .u32 1] 36)).alloc (.cells #[.int .u32 8] 36)) (EmitPost ((w5.alloc (.cells #[.int .u32 1] 36)).alloc (.cells #[.int .u32 8] 36)) [(1, 8)]) := by
              refine implEmit (some ⟨s, 0, none⟩) (some ⟨s + 1, 0, none⟩) 1 1 [1] [8] _ (Nat.le_refl _) (Nat.le_refl _) (by decide) rfl ?_ ?_ ?_
              · refine .inr ⟨s, 0, rfl, by simp only [World.size_alloc]; omega, by simp only [World.size_alloc]; omega, fun k hk => ?_⟩
                have hk0 : k = 0 := by simp at hk; exact hk
                subst hk0
                rw [World.cell?_alloc_lt _ _ ⟨s, 0 + 0, none⟩ (by simp only [World.size_alloc]; omega), ← hs, World.cell?_alloc_new]
                rfl
              · refine .inr ⟨s + 1, 0, rfl, by simp only [World.size_alloc]; omega, by simp only [World.size_alloc]; omega, fun k hk => ?_⟩
                have hk0 : k = 0 := by simp at hk; exact hk
                subst hk0
                have := World.cell?_alloc_new (w5.alloc (.cells #[.int .u32 1] 36)) #[.int .u32 8] 36 0
                rw [World.size_alloc, hs] at this
                rw [this]
                rfl
              · intro i h1 h2
                have hi0 : i = 0 := by simp at h1; exact h1
                subst hi0
                exact (show isCode 1 8 from ⟨by decide, by decide, by decide⟩)
            have EMH := Lib.hid EM
            have C6 := Lib.hid (C5.out.trans c6)
            clear EM c6
            go_wp2_with fail
            refine EMH.out.mono ?_
            clear EMH
            rintro e w7 ⟨hC7, ys, q7, V7, v7, hS7, hq7, rfl, hown7⟩
            obtain ⟨b7, c7, rfl, _⟩ := owns_sl hown7
            have h1 : (wstuff ys).length = 1 := WSt.one (q := q7) (V := V7) hS7 hq7
            rw [h1]
            have FIN := Lib.hid (C6.out.trans hC7)
            clear hC7 hS7 hown7
            go_wp2_with fail
            go_ret
            exact TRUE.out _ FIN.out
end Go.Proofs.YtkkplbfbhmlnoaaDoor
