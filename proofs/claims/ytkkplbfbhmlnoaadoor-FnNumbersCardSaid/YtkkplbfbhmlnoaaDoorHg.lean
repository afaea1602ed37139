/- ZZSymbols on the table and the data of reads(): the symbols 7 and 7. Conditions: the arguments are those of reads(); the three variables are laid. -/
import Derived.Test.YtkkplbfbhmlnoaaDoorHe
import Derived.Test.YtkkplbfbhmlnoaaDoorHf
namespace Go.Proofs.YtkkplbfbhmlnoaaDoor
open Go.RowKit

theorem info5 : (Tryd.prog.info? 5).map (fun i => (i.zero, i.size, i.bytes)) = some (some (.int .u8 0), 1, 1) := by kernel_rfl

def again (F : Nat → Value) (r : Nat) : Nat → Value := upd (upd (upd (upd F 0 (.iface 74 (.pointer (some ⟨r, 0, none⟩)))) 4100 (.int .i64 0)) 4101 (.int .i64 0)) 4102 (.int .i64 0)
theorem again_at (F : Nat → Value) (r k : Nat) (h : (1 ≤ k ∧ k < 4) ∨ 4103 ≤ k) : again F r k = F k := by
  unfold again
  rw [upd_ne _ _ _ _ (by omega), upd_ne _ _ _ _ (by omega), upd_ne _ _ _ _ (by omega), upd_ne _ _ _ _ (by omega)]

/-- The decoder behind a new reader. -/
theorem src_again {w w5 : World} {b r r2 : Nat} {a1 a2 : Addr} {F : Nat → Value} {base base2 : Option Addr} {cap cap2 : Nat} {data rest data2 : List UInt8} (h : Src w b r a1 a2 F base cap data rest) (hr2 : w.heap.size = r2) (hc : data2.length ≤ cap2) (hm : cap2 ≤ 4611686018427387904)
    (hd : Bytes w (fun k => k < w.heap.size ∧ k ≠ b) base2 data2) (hw5 : w.alloc (.cells #[.slice base2 data2.length cap2, .int .i64 0, .int .i64 (-1)] 138) = w5) :
    Src ((((w5.setCell ⟨b, 0, none⟩ (.iface 74 (.pointer (some ⟨r2, 0, none⟩)))).setCell ⟨b, 4100, none⟩ (.int .i64 0)).setCell ⟨b, 4101, none⟩ (.int .i64 0)).setCell ⟨b, 4102, none⟩ (.int .i64 0)) b r2 a1 a2 (again F r2) base2 cap2 data2 data2 ∧
      Chg (fun k => k = b) w ((((w5.setCell ⟨b, 0, none⟩ (.iface 74 (.pointer (some ⟨r2, 0, none⟩)))).setCell ⟨b, 4100, none⟩ (.int .i64 0)).setCell ⟨b, 4101, none⟩ (.int .i64 0)).setCell ⟨b, 4102, none⟩ (.int .i64 0)) := by
  obtain ⟨i, j, p, bs, S, _⟩ := h
  have hlt := S.blk.lt
  have hgl := S.glob.lt
  have R1 : Blk w5 r2 3 (rdF (.slice base2 data2.length cap2) 0 (.int .i64 (-1))) := by
    rw [← hw5]
    have := Blk.ofNew w #[.slice base2 data2.length cap2, .int .i64 0, .int .i64 (-1)] 138 3 (rdF (.slice base2 data2.length cap2) 0 (.int .i64 (-1))) (fun k hk => by
      match k, hk with
      | 0, _ => rfl
      | 1, _ => rfl
      | 2, _ => rfl)
    rwa [hr2] at this
  have B1 : Blk w5 b 9020 F := by rw [← hw5]; exact S.blk.alloc _
  have C1 : Chg (fun k => k = b) w w5 := by rw [← hw5]; exact (Chg.refl _ w).alloc _
  have C : Chg (fun k => k = b) w ((((w5.setCell ⟨b, 0, none⟩ (.iface 74 (.pointer (some ⟨r2, 0, none⟩)))).setCell ⟨b, 4100, none⟩ (.int .i64 0)).setCell ⟨b, 4101, none⟩ (.int .i64 0)).setCell ⟨b, 4102, none⟩ (.int .i64 0)) :=
    (((C1.setCell (p := ⟨b, 0, none⟩) (fun _ => rfl) _).setCell (p := ⟨b, 4100, none⟩) (fun _ => rfl) _).setCell (p := ⟨b, 4101, none⟩) (fun _ => rfl) _).setCell (p := ⟨b, 4102, none⟩) (fun _ => rfl) _
  refine ⟨⟨0, 0, 0, bs, ⟨S.glob.chg C (fun k hk e => by have := S.b3; omega), (((B1.setCell (by decide) _).setCell (by decide) _).setCell (by decide) _).setCell (by decide) _, S.b3, by omega, by omega, ?_, ?_, ?_, Nat.le_refl _, by decide, fun k hk => ?_,
    ⟨_, (((R1.setOther (p := ⟨b, 0, none⟩) (by show b ≠ r2; omega) _).setOther (p := ⟨b, 4100, none⟩) (by show b ≠ r2; omega) _).setOther (p := ⟨b, 4101, none⟩) (by show b ≠ r2; omega) _).setOther (p := ⟨b, 4102, none⟩) (by show b ≠ r2; omega) _⟩, Nat.zero_le _, hc, hm, (hd.chg C (fun k hk e => hk.2 e)).mono (fun k hk => ⟨hk.2, by omega⟩)⟩, by simp [bufd]⟩, C⟩
  · unfold again; rw [upd_ne _ _ _ _ (by decide), upd_ne _ _ _ _ (by decide), upd_ne _ _ _ _ (by decide), upd_same]
  · unfold again; rw [upd_ne _ _ _ _ (by decide), upd_ne _ _ _ _ (by decide), upd_same]; rfl
  · unfold again; rw [upd_ne _ _ _ _ (by decide), upd_same]; rfl
  · unfold again; rw [upd_ne _ _ _ _ (by omega), upd_ne _ _ _ _ (by omega), upd_ne _ _ _ _ (by omega), upd_ne _ _ _ _ (by omega)]
    exact S.buf k hk

def seven (n : Nat) : List Value := List.replicate n (.int .u8 7)

/-- At the head of a round of ZZSymbols. -/
def YRel (w : World) (b r B : Nat) (a1 a2 : Addr) (base : Option Addr) (cap : Nat) (gk : Nat) (v14 v15 : Value) (wr : World) : Prop :=
  ∃ (sv : Value) (i : Nat) (f : Nat → Value) (rest : List UInt8) (k A m : Nat), sv = v14 ∧ v15 = .int .i64 (i : Int) ∧ i + gk = 2 ∧ Chg (fun _ => False) w wr ∧ wr.ownsRow B 5 1 sv i (seven i) ∧ Tbl f ∧ BSt wr b r a1 a2 base cap [63] f rest k A m ∧
    ((i = 0 ∧ rest = [63] ∧ k = 0 ∧ A = 0 ∧ m = 0) ∨ (i = 1 ∧ rest = [] ∧ k = 7 ∧ A = 63 ∧ m = 64) ∨ i = 2)

def YPost (w : World) (B : Nat) (e : Ending) (w' : World) : Prop := Chg (fun _ => False) w w' ∧ ∃ v, w'.ownsRow B 5 1 v 2 (seven 2) ∧ e = .returned (.tuple #[v, .nilIface])

theorem yrel_next {w w1 w2 : World} {b r B : Nat} {a1 a2 : Addr} {base : Option Addr} {cap : Nat} {f : Nat → Value} {i gk k A m : Nat} {sv v' : Value} (hG : Glob w a1 a2) (hbB : b < B) (hrB : r < B) (hwB : w.heap.size ≤ B) (hd : Bytes w (fun k => k < w.heap.size ∧ k ≠ b ∧ k ≠ r) base [63])
    (hik : i + (gk + 1) = 2) (S : BSt w1 b r a1 a2 base cap [63] f [] k A m) (hC : Chg (fun _ => False) w w1) (hT : Tbl f) (hcase : i = 0 → k = 7 ∧ A = 63 ∧ m = 64)
    (hown : w2.ownsRow B 5 1 v' (i + 1) (seven i ++ [.int .u8 7])) (o : Obj) (hg : (w1.alloc o).grownBy w2 sv.ownBlock) (hv4 : ∀ k, sv.ownBlock = some k → B ≤ k) :
    YRel w b r B a1 a2 base cap gk v' (.int .i64 ((i : Int) + 1)) w2 := by
  have hC2 : Chg (fun k => some k = sv.ownBlock) (w1.alloc o) w2 := Chg.ofGrown hg
  have hC3 : Chg (fun k => some k = sv.ownBlock) w1 w2 := ((Chg.refl _ w1).alloc o).trans hC2
  have hne : ∀ j, j < B → ¬ some j = sv.ownBlock := fun j hj e => by have := hv4 _ e.symm; omega
  have hCw : Chg (fun _ => False) w w2 := hC.transNew hC3 (fun k hk e => hne k (by omega) e)
  refine ⟨v', i + 1, f, [], k, A, m, rfl, rfl, by omega, hCw, ?_, hT, S.keep hC3 (hne _ hbB) (hne _ hrB) (hG.chg hCw (fun _ _ h => h)) ((hd.chg hCw (fun _ _ h => h)).mono (fun k hk => hk.2)), ?_⟩
  · have : seven (i + 1) = seven i ++ [.int .u8 7] := by unfold seven; exact List.replicate_succ'
    rw [this]; exact hown
  · by_cases h : i = 0
    · obtain ⟨h1, h2, h3⟩ := hcase h
      exact .inr (.inl ⟨by omega, rfl, h1, h2, h3⟩)
    · exact .inr (.inr (by omega))

set_option maxRecDepth 100000 in
set_option maxHeartbeats 4000000 in
theorem zzSymReads (a1 a2 : Addr) (base : Option Addr) (cap : Nat) (cb : Option Addr) (cc : Nat) (w : World) (hG : Glob w a1 a2) (hc : 18 ≤ cap) (hm : cap ≤ 4611686018427387904) (hb : Bytes w (fun k => k < w.heap.size) base T18) (hcc : 1 ≤ cc) (hcm : cc ≤ 4611686018427387904) (hcb : Bytes w (fun k => k < w.heap.size) cb [63]) :
    Calls Tryd.prog 25 #[.slice base 18 cap, .int .i64 0, .int .i64 0, .slice cb 1 cc, .int .i64 2] w (fun e w' => ∃ B, w.heap.size ≤ B ∧ YPost w B e w') := by
  have HIN := Lib.hid (And.intro hG (And.intro hc (And.intro hm (And.intro hb (And.intro hcc (And.intro hcm hcb))))))
  obtain ⟨i0, hi0, hz0, hz1, hz2⟩ := info_parts info5
  have HI := Lib.hid (And.intro hi0 (And.intro hz0 (And.intro hz1 hz2)))
  obtain ⟨g, hg⟩ : ∃ g, w.heap.size = g := ⟨_, rfl⟩
  clear hi0 hz0 hz1 hz2 hG hc hm hb hcc hcm hcb
  go_enter Tryd.func25, Tryd.ntmps25
  go_wp2_with fail
  refine (newReader _ _ _ _).mono ?_
  rintro e w1 ⟨rfl, hw1⟩
  obtain ⟨S1, C1, S⟩ := sym_start (l := T18) HIN.out.1 HIN.out.2.1 HIN.out.2.2.1 HIN.out.2.2.2.1 hg hw1
  have D := Lib.hid (dht_any (g + 1) g a1 a2 _ (f0 g) base cap T18 T18 S (by rfl) (by rfl))
  have HC := Lib.hid C1
  rw [hg]
  clear hw1 C1 S
  go_wp2_with (first | (refine wpList_build rfl (.tmp 20) rfl _ rfl ?_) | (refine wpList_box rfl (.tmp 21) rfl _ rfl ?_))
  refine D.out.mono ?_
  clear D
  rintro e w3 ⟨hC3, ⟨_, rfl, F, hS, hT⟩ | ⟨h, _⟩⟩
  · have CW3 := Lib.hid (HC.out.transNew hC3 (fun i hi h => by rcases h with h | h <;> omega))
    have HS := Lib.hid (And.intro hS (hT trivial))
    have f1 := hS.src.blk.free 0
    have f2 := hS.src.blk.free 4100
    have f3 := hS.src.blk.free 4101
    have f4 := hS.src.blk.free 4102
    have k1 := hS.src.blk.cell 0 (by decide)
    have k2 := hS.src.blk.cell 4100 (by decide)
    have k3 := hS.src.blk.cell 4101 (by decide)
    have k4 := hS.src.blk.cell 4102 (by decide)
    clear hC3 hS hT HC
    go_wp2_with fail
    refine (newReader _ _ _ _).mono ?_
    rintro e w5 ⟨rfl, hw5⟩
    obtain ⟨r2, hr2⟩ : ∃ r2, w3.heap.size = r2 := ⟨_, rfl⟩
    have hgr : g + 1 < r2 := by rw [← hr2]; exact HS.out.1.src.blk.lt
    obtain ⟨SA, CA⟩ := src_again (data2 := [63]) HS.out.1.src hr2 HIN.out.2.2.2.2.1 HIN.out.2.2.2.2.2.1 ((HIN.out.2.2.2.2.2.2.chg CW3.out (fun _ _ h => h)).mono (fun k hk => ⟨Nat.lt_of_lt_of_le hk CW3.out.size, by omega⟩)) hw5
    have f5 : ∀ k, w5.frozen? ⟨g + 1, k, none⟩ = false := fun k => by rw [← hw5]; exact (HS.out.1.src.blk.alloc _).free k
    have k5 : ∀ k, k < 9020 → w5.cell? ⟨g + 1, k, none⟩ = some (F k) := fun k hk => by rw [← hw5]; exact (HS.out.1.src.blk.alloc _).cell k hk
    have f1 := f5 0
    have f2 := f5 4100
    have f3 := f5 4101
    have f4 := f5 4102
    have k1 := k5 0 (by decide)
    have k2 := k5 4100 (by decide)
    have k3 := k5 4101 (by decide)
    have k4 := k5 4102 (by decide)
    have START : Hid (∀ W, W = ((((w5.setCell ⟨g + 1, 0, none⟩ (.iface 74 (.pointer (some ⟨r2, 0, none⟩)))).setCell ⟨g + 1, 4100, none⟩ (.int .i64 0)).setCell ⟨g + 1, 4101, none⟩ (.int .i64 0)).setCell ⟨g + 1, 4102, none⟩ (.int .i64 0)) → YRel w (g + 1) r2 (r2 + 1) a1 a2 cb cc 2 (.slice none 0 0) (.int .i64 0) W) := fun W hW => by
      subst hW
      refine ⟨.slice none 0 0, 0, again F r2, [63], 0, 0, 0, rfl, rfl, rfl, CW3.out.transNew CA (fun i hi h => by omega), World.ownsRow_nil _ _ _ _, HS.out.2.of (fun c hc => again_at F r2 c (.inr hc)), ⟨SA, ?_, ?_, ?_, by decide, by decide⟩, .inl ⟨rfl, rfl, rfl, rfl, rfl⟩⟩
      · rw [again_at F r2 1 (.inl (by decide)), HS.out.1.lo 1 (by decide)]; rfl
      · rw [again_at F r2 2 (.inl (by decide)), HS.out.1.lo 2 (by decide)]; rfl
      · rw [again_at F r2 3 (.inl (by decide)), HS.out.1.lo 3 (by decide)]; rfl
    rw [hr2]
    have hB : g ≤ r2 + 1 := by omega
    clear SA CA hw5 f5 k5
    go_wp2_with fail
    go_loopg [14, 15] 2 (fun k v14 v15 wr => YRel w (g + 1) r2 (r2 + 1) a1 a2 cb cc k v14 v15 wr)
    case atStart => exact START.out _ rfl
    case round =>
      clear START k1 k2 k3 k4 f1 f2 f3 f4
      obtain ⟨sv, i, f, rest, k, A, m, rfl, rfl, hik, hC, hown, hT, S, hcase⟩ := hrel
      by_cases hi : i < 2
      · have hii : (i : Int) < 2 := by omega
        obtain ⟨kk, rfl⟩ : ∃ kk, gk = kk + 1 := ⟨gk - 1, by omega⟩
        obtain ⟨k', A', m', hcase2, DEC⟩ : ∃ k' A' m', (i = 0 → k' = 7 ∧ A' = 63 ∧ m' = 64) ∧ Hid (Calls Tryd.prog 37 #[.pointer (some ⟨g + 1, 0, none⟩), .pointer (some ⟨g + 1, 4148, none⟩)] wr (DHufPost wr (g + 1) r2 a1 a2 cb cc [63] f k' A' m')) := by
          rcases hcase with ⟨h0, rfl, rfl, rfl, rfl⟩ | ⟨h0, rfl, rfl, rfl, rfl⟩ | h0
          · exact ⟨7, 63, 64, fun _ => ⟨rfl, rfl, rfl⟩, decH1 (g + 1) r2 a1 a2 cb cc [63] wr f S hT⟩
          · exact ⟨6, 63, 32, fun h => absurd h (by omega), decH2 (g + 1) r2 a1 a2 cb cc [63] wr f S hT⟩
          · exact absurd h0 (by omega)
        have HX := Lib.hid (And.intro hik (And.intro hC (And.intro hown (And.intro hT hcase2))))
        have hsz0 : r2 + 1 ≤ wr.heap.size := by
          obtain ⟨_, _, _, _, S0, _⟩ := S.src
          obtain ⟨q, hq⟩ := S0.rb
          exact hq.lt
        clear hik hC hown hT hcase2 hcase S
        go_wp2_with fail
        refine DEC.out.mono ?_
        clear DEC
        rintro e w2 ⟨rfl, f', hC1, S', hf'⟩
        have OWN1 := Lib.hid (owns_chg HX.out.2.2.1 hC1 (fun k hk e => by rcases e with e | e <;> omega))
        have CW1 : Hid (Chg (fun _ => False) w w2) := HX.out.2.1.transNew hC1 (fun k hk e => by have := CW3.out.size; rcases e with e | e <;> omega)
        have T1 := HX.out.2.2.2.1.of hf'
        have NEXT : Hid (∀ v' w4, w4.ownsRow (r2 + 1) 5 1 v' (i + 1) (seven i ++ [.int .u8 7]) → (w2.alloc (.cells #[.int .u8 7] 5)).grownBy w4 sv.ownBlock → YRel w (g + 1) r2 (r2 + 1) a1 a2 cb cc kk v' (.int .i64 ((i : Int) + 1)) w4) := fun v' w4 h1 h2 =>
          yrel_next HIN.out.1 (by omega) (by omega) (by omega) (HIN.out.2.2.2.2.2.2.mono (fun k hk => ⟨hk, by omega, by omega⟩)) HX.out.1 S' CW1.out T1 HX.out.2.2.2.2 h1 _ h2 (fun k hk => (HX.out.2.2.1.lt k hk).1)
        have hsz1 : r2 + 1 ≤ w2.heap.size := Nat.le_trans hsz0 hC1.size
        clear hC1 S' hf' T1
        go_wp2_with (at_builtin; refine wpList_append_own _ rfl _ _ 22 rfl (r2 + 1) 5 i0 (.int .u8 0) 1 1 Tryd.underlying22 HI.out.1 HI.out.2.1 HI.out.2.2.1 HI.out.2.2.2 rfl (by decide) _ _ _ rfl (OWN1.out.alloc _) ⟨w2.heap.size, 0, none⟩ 1 1 [.int .u8 7] rfl rfl ?c1 ?c2 ?c3 ?c4 ?c5 ?_)
        case c1 =>
          intro j u hj
          match j, hj with
          | 0, hj => simp at hj; subst hj; simp [Addr.add]
        case c2 => intro u hu; simp at hu; subst hu; rfl
        case c3 => unfold maxLen; omega
        case c4 => omega
        case c5 => simp; omega
        · intro v' w4 hown' hgrow _
          have FIN := Lib.hid (NEXT.out v' w4 hown' hgrow)
          clear hown' hgrow NEXT OWN1 CW1 HX
          go_wp2_with fail
          go_roundg kk
          case measure => omega
          case rel => exact FIN.out
      · obtain rfl : i = 2 := by omega
        have FIN : Hid (YPost w (r2 + 1) (.returned (.tuple #[sv, .nilIface])) wr) := ⟨hC, sv, hown, rfl⟩
        clear hik hC hown hT S hcase
        go_wp2_with fail
        go_ret2
        exact ⟨r2 + 1, by omega, FIN.out⟩
  · exact absurd h (by decide)
end Go.Proofs.YtkkplbfbhmlnoaaDoor
