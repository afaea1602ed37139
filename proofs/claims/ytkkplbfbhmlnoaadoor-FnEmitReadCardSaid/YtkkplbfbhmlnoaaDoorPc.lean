/- spec.Coded: whether its arguments are codes with their lengths; the sink that it fills does not panic. Conditions: the arguments are slices of at most 2147483647 numbers of 32 bits. -/
import Derived.Test.YtkkplbfbhmlnoaaDoorZb
import Derived.Deep.RegionLaw
import Derived.Deep.AppendLies
namespace Go.Proofs.YtkkplbfbhmlnoaaDoor
open Go.RowKit

theorem info5 : (Tryd.prog.info? 5).map (fun i => (i.zero, i.size, i.bytes)) = some (some (.int .u8 0), 1, 1) := by kernel_rfl

def sinkF (v : Value) (z m : Int) : Nat → Value := fun k => if k = 0 then v else if k = 1 then .int .i64 z else .int .i64 m

/-- The sink's block. -/
structure SinkB (w W : World) (sb B : Nat) (v : Value) (z m : Int) : Prop where
  blk : Blk W sb 3 (sinkF v z m)
  chg : Chg (fun _ => False) w W
  hw : w.heap.size ≤ sb
  hB : sb < B
  hBW : B ≤ W.heap.size
section
variable {w W : World} {sb B : Nat} {v : Value} {z m : Int}
theorem SinkB.drew (h : SinkB w W sb B v z m) : SinkB w W.drew sb B v z m := ⟨h.blk.drew, h.chg.drew, h.hw, h.hB, h.hBW⟩
theorem SinkB.setC (h : SinkB w W sb B v z m) (p : Addr) (hp : p.block = sb) (u : Value) : Chg (fun _ => False) w (W.setCell p u) := h.chg.setCell (fun hlt => absurd hlt (by rw [hp]; exact Nat.not_lt.2 h.hw)) u
theorem SinkB.set0 (h : SinkB w W sb B v z m) (v' : Value) : SinkB w (W.setCell ⟨sb, 0, none⟩ v') sb B v' z m :=
  ⟨(h.blk.setCell (k := 0) (by decide) v').congr (fun k hk => by match k, hk with
    | 0, _ => rfl
    | 1, _ => rfl
    | 2, _ => rfl), h.setC _ rfl _, h.hw, h.hB, by rw [World.size_setCell]; exact h.hBW⟩
theorem SinkB.set1 (h : SinkB w W sb B v z m) (z' : Int) : SinkB w (W.setCell ⟨sb, 1, none⟩ (.int .i64 z')) sb B v z' m :=
  ⟨(h.blk.setCell (k := 1) (by decide) _).congr (fun k hk => by match k, hk with
    | 0, _ => rfl
    | 1, _ => rfl
    | 2, _ => rfl), h.setC _ rfl _, h.hw, h.hB, by rw [World.size_setCell]; exact h.hBW⟩
theorem SinkB.set2 (h : SinkB w W sb B v z m) (m' : Int) : SinkB w (W.setCell ⟨sb, 2, none⟩ (.int .i64 m')) sb B v z m' :=
  ⟨(h.blk.setCell (k := 2) (by decide) _).congr (fun k hk => by match k, hk with
    | 0, _ => rfl
    | 1, _ => rfl
    | 2, _ => rfl), h.setC _ rfl _, h.hw, h.hB, by rw [World.size_setCell]; exact h.hBW⟩
theorem SinkB.grown (h : SinkB w W sb B v z m) {W2 W' : World} {row : Option Nat} (hg : W2.grownBy W' row) (h2 : Chg (fun _ => False) W W2) (hv : ∀ k, row = some k → B ≤ k) : SinkB w W' sb B v z m := by
  have hC : Chg (fun k => some k = row) W W' := (h2.mono (fun _ _ h => h.elim)).trans (Chg.ofGrown hg)
  have := h.hB
  have := h.hw
  have hne : ∀ j, j < B → ¬ some j = row := fun j hj e => by have := hv _ e.symm; omega
  exact ⟨h.blk.chg hC (hne _ h.hB), h.chg.transNew hC (fun k hk e => hne k (by omega) e), h.hw, h.hB, Nat.le_trans h.hBW hC.size⟩
theorem own_set (h : SinkB w W sb B v z m) {u : Value} {n : Nat} {xs : List Value} (ho : W.ownsRow B 5 1 u n xs) (p : Addr) (hp : p.block = sb) (x : Value) : (W.setCell p x).ownsRow B 5 1 u n xs :=
  owns_chg ho (Chg.setCell (S := fun k => k = sb) (Chg.refl _ W) (p := p) (fun _ => hp) x) (fun k hk e => by have := h.hB; omega)
end

/-- The sink in block sb: n bytes, m bits more. -/
structure SinkSt (w W : World) (sb B n m : Nat) : Prop where
  st : ∃ v z xs, SinkB w W sb B v z (m : Int) ∧ W.ownsRow B 5 1 v n xs
  m8 : m < 8

def SinkRel (w : World) (sb B n m k : Nat) (gk : Nat) (v6 : Value) (wr : World) : Prop :=
  ∃ n' m', v6 = .int .i64 ((gk : Int) - 1) ∧ gk ≤ k ∧ n' ≤ n + 2 * (k - gk) ∧ m' % 8 = (m + (k - gk)) % 8 ∧ SinkSt w wr sb B n' m'

set_option maxRecDepth 100000 in
set_option maxHeartbeats 4000000 in
theorem sinkPut (w W : World) (sb B n m k : Nat) (a : Int) (h : SinkSt w W sb B n m) (hk : k ≤ 16) (hn : n ≤ 140737488350000) :
    Calls Tryd.prog 21 #[.pointer (some ⟨sb, 0, none⟩), .int .i64 a, .int .i64 (k : Int)] W (fun e W' => e = .returned (.tuple #[]) ∧ ∃ n' m', n' ≤ n + 2 * k ∧ m' % 8 = (m + k) % 8 ∧ SinkSt w W' sb B n' m') := by
  have START : Hid (SinkRel w sb B n m k k (.int .i64 ((k : Int) - 1)) W) := ⟨n, m, rfl, Nat.le_refl _, by omega, by simp, h⟩
  obtain ⟨i0, hi0, hz0, hz1, hz2⟩ := info_parts info5
  have HI := Lib.hid (And.intro hi0 (And.intro hz0 (And.intro hz1 hz2)))
  clear h hi0 hz0 hz1 hz2
  have hki : (k : Int) ≤ 16 := by omega
  go_enter Tryd.func21, Tryd.ntmps21
  go_wp2_with fail
  go_loopg [6] k (fun gk v6 wr => SinkRel w sb B n m k gk v6 wr)
  case atStart => exact START.out
  case round =>
    clear START
    obtain ⟨n', m', rfl, hgk, hn', hm', S⟩ := hrel
    by_cases h0 : gk = 0
    · subst h0
      have FIN : Hid (∃ n' m', n' ≤ n + 2 * k ∧ m' % 8 = (m + k) % 8 ∧ SinkSt w wr sb B n' m') := ⟨n', m', by omega, by rw [hm']; rfl, S⟩
      clear S
      go_wp2_with fail
      go_end0
      exact ⟨rfl, FIN.out⟩
    · obtain ⟨j, rfl⟩ : ∃ j, gk = j + 1 := ⟨gk - 1, by omega⟩
      have hji : (0 : Int) ≤ (j : Int) := by omega
      have e1 : ((j + 1 : Nat) : Int) - 1 = (j : Int) := by omega
      rw [e1]
      obtain ⟨v, z, xs, hB, hO⟩ := S.st
      have c0 : wr.cell? ⟨sb, 0, none⟩ = some v := hB.blk.cell 0 (by decide)
      have c1 : wr.cell? ⟨sb, 1, none⟩ = some (.int .i64 z) := hB.blk.cell 1 (by decide)
      have c2 : wr.cell? ⟨sb, 2, none⟩ = some (.int .i64 (m' : Int)) := hB.blk.cell 2 (by decide)
      have f0 := hB.blk.free 0
      have f1 := hB.blk.free 1
      have f2 := hB.blk.free 2
      have hm8n := S.m8
      have hm8 : (m' : Int) < 8 := by omega
      have HO := Lib.hid (And.intro hB hO)
      obtain ⟨z2, hz2⟩ : ∃ z2 : Int, bits .or .i64 (wrap64 (z * 2)) (bits .and .i64 (a / 2 ^ j) 1) = z2 := ⟨_, rfl⟩
      clear S hB hO
      go_wp2_with fail
      refine wp_region_tail 11 (by kernel_rfl) (by kernel_rfl) ?_
      simp only [List.take_succ_cons, List.take_zero, List.drop_succ_cons, List.drop_zero]
      repeat (go_big_quiet_step (fail))
      refine wpQuiet_nil ?_
      by_cases e8 : m' = 7
      · have q8 : ((m' : Int) + 1 == 8) = true := by subst e8; rfl
        go_wp2_with fail
        refine cutW (fun W => SinkB w W sb B v z2 8 ∧ W.ownsRow B 5 1 v n' xs) ⟨((HO.out.1.set1 z2).set2 8).drew, own_set (HO.out.1.set1 z2) (own_set HO.out.1 HO.out.2 ⟨sb, 1, none⟩ rfl _) ⟨sb, 2, none⟩ rfl _⟩ ?_
        clear HO c0 c1 c2 f0 f1 f2
        intro W1 hW1
        have c0 : W1.cell? ⟨sb, 0, none⟩ = some v := hW1.1.blk.cell 0 (by decide)
        have c1 : W1.cell? ⟨sb, 1, none⟩ = some (.int .i64 z2) := hW1.1.blk.cell 1 (by decide)
        have f0 : W1.frozen? ⟨sb, 0, none⟩ = false := hW1.1.blk.free 0
        have lsb : sb < W1.heap.size := hW1.1.blk.lt
        have H1 := Lib.hid hW1
        have hne : v.ownBlock ≠ some sb := fun e => by have := (hW1.2.lt sb e).1; have := hW1.1.hB; omega
        have hBW := hW1.1.hBW
        clear hW1
        have fa : ∀ o, (W1.alloc o).frozen? ⟨sb, 0, none⟩ = false := fun o => by rw [World.frozen?_alloc_old _ _ ⟨sb, 0, none⟩ (Nat.ne_of_lt lsb)]; exact f0
        have ca : ∀ o, (W1.alloc o).cell? ⟨sb, 0, none⟩ = some v := fun o => by rw [World.cell?_alloc_lt _ _ ⟨sb, 0, none⟩ lsb]; exact c0
        have cb : ∀ o, (W1.alloc o).cell? ⟨sb, 1, none⟩ = some (.int .i64 z2) := fun o => by rw [World.cell?_alloc_lt _ _ ⟨sb, 1, none⟩ lsb]; exact c1
        go_region_law
          ((refine step_append_lies _ (by rfl) _ _ _ (by rfl) B 5 i0 _ 1 1 Tryd.underlying22 HI.out.1 HI.out.2.1 HI.out.2.2.1 HI.out.2.2.2 rfl (by decide) v n' xs (by rfl) ((H1.out.2.alloc _).drew)
              ⟨W1.heap.size, 0, none⟩ 1 1 [.int .u8 (IntKind.u8.wrap z2)] (by rfl) (by rfl) (World.news_of_block (cs := #[.int .u8 (IntKind.u8.wrap z2)]) (t := 5) (fr := (0, 0)) (heap_alloc_new W1 _)) (by simp [Value.oneCell'])
              (by omega) (by unfold maxLen; omega) (by omega) (by simp; omega) (W1.heap.size + 1) (by simp) ?_; intro gg cap w3 hown1 hgrow hat hlt; have f3 := (hgrow.frozen_far ⟨sb, 0, none⟩ (by simp; omega) (Ne.symm hne)).trans (fa _); have c3 := (hgrow.cell_far ⟨sb, 0, none⟩ (by simp; omega) (Ne.symm hne)).trans (ca _)))
        all_goals (
          have HS3 := Lib.hid (H1.out.1.grown hgrow (((Chg.refl _ W1).alloc _).drew) (fun k hk => (H1.out.2.lt k hk).1))
          have HO3 := Lib.hid hown1
          have c13 : w3.cell? ⟨sb, 1, none⟩ = some (.int .i64 z2) := HS3.out.blk.cell 1 (by decide)
          have c23 : w3.cell? ⟨sb, 2, none⟩ = some (.int .i64 8) := HS3.out.blk.cell 2 (by decide)
          have f13 := HS3.out.blk.free 1
          have f23 := HS3.out.blk.free 2
          have l3 := HS3.out.blk.lt
          have hB3 := HS3.out.hBW
          clear hgrow hown1 hat hlt fa ca cb c0 c1 f0 H1 lsb hBW
          by_cases q : z2 = 255
          · have q1 : (z2 == 255) = true := by simp [q]
            go_wp2_with (at_builtin; refine wpList_append_own _ rfl _ _ 22 rfl B 5 i0 (.int .u8 0) 1 1 Tryd.underlying22 HI.out.1 HI.out.2.1 HI.out.2.2.1 HI.out.2.2.2 rfl (by decide) _ _ _ rfl ((own_set HS3.out HO3.out ⟨sb, 0, none⟩ rfl _).alloc _) ⟨w3.heap.size, 0, none⟩ 1 1 [.int .u8 0] rfl rfl ?c1 ?c2 ?c3 ?c4 ?c5 ?_)
            case c1 =>
              intro j u hj
              match j, hj with
              | 0, hj =>
                simp at hj
                subst hj
                have := World.cell?_alloc_new (w3.setCell ⟨sb, 0, none⟩ (.slice (some ⟨gg, 0, none⟩) (n' + 1) cap)) #[.int .u8 0] 5 0
                rw [World.size_setCell] at this
                simpa [Addr.add] using this
            case c2 => intro u hu; simp at hu; subst hu; rfl
            case c3 => unfold maxLen; omega
            case c4 => omega
            case c5 => rw [World.size_alloc, World.size_setCell]; omega
            · intro v4 w4 hown4 hgrow4 hnn
              obtain ⟨g4, cap4, rfl⟩ : ∃ g4 cap4, v4 = .slice (some ⟨g4, 0, none⟩) (n' + 1 + 1) cap4 := by
                rcases hown4.2 with h2 | ⟨g4, cap4, cur4, hv4, _⟩
                · exact absurd h2.1 hnn
                · exact ⟨g4, cap4, hv4⟩
              have HS4 := Lib.hid ((HS3.out.set0 (.slice (some ⟨gg, 0, none⟩) (n' + 1) cap)).grown hgrow4 ((Chg.refl _ _).alloc _) (fun k hk => (HO3.out.lt k hk).1))
              have HO4 := Lib.hid hown4
              have d0 : w4.cell? ⟨sb, 0, none⟩ = some (.slice (some ⟨gg, 0, none⟩) (n' + 1) cap) := HS4.out.blk.cell 0 (by decide)
              have d1 : w4.cell? ⟨sb, 1, none⟩ = some (.int .i64 z2) := HS4.out.blk.cell 1 (by decide)
              have d2 : w4.cell? ⟨sb, 2, none⟩ = some (.int .i64 8) := HS4.out.blk.cell 2 (by decide)
              have g0 := HS4.out.blk.free 0
              have g1 := HS4.out.blk.free 1
              have g2 := HS4.out.blk.free 2
              clear hown4 hgrow4 c13 c23 f13 f23 c3 f3
              go_wp2_with fail
              go_roundg j
              case measure => omega
              case rel => exact ⟨n' + 1 + 1, 0, rfl, by omega, by omega, by omega, ⟨⟨_, _, _, ((HS4.out.set0 _).set1 0).set2 0, own_set ((HS4.out.set0 _).set1 0) (own_set (HS4.out.set0 _) (own_set HS4.out HO4.out ⟨sb, 0, none⟩ rfl _) ⟨sb, 1, none⟩ rfl _) ⟨sb, 2, none⟩ rfl _⟩, by decide⟩⟩
          · have q1 : (z2 == 255) = false := by simp [q]
            go_wp2_with fail
            go_roundg j
            case measure => omega
            case rel => exact ⟨n' + 1, 0, rfl, by omega, by omega, by omega, ⟨⟨_, _, _, ((HS3.out.set0 _).set1 0).set2 0, own_set ((HS3.out.set0 _).set1 0) (own_set (HS3.out.set0 _) (own_set HS3.out HO3.out ⟨sb, 0, none⟩ rfl _) ⟨sb, 1, none⟩ rfl _) ⟨sb, 2, none⟩ rfl _⟩, by decide⟩⟩)
      · have q8 : ((m' : Int) + 1 == 8) = false := by simp; omega
        have NX : Hid (∀ W, W = ((wr.setCell ⟨sb, 1, none⟩ (.int .i64 z2)).setCell ⟨sb, 2, none⟩ (.int .i64 ((m' : Int) + 1))).drew → SinkSt w W sb B n' (m' + 1)) := fun W hW => by
          subst hW
          exact ⟨⟨v, z2, xs, ((HO.out.1.set1 z2).set2 ((m' : Int) + 1)).drew, own_set (HO.out.1.set1 z2) (own_set HO.out.1 HO.out.2 ⟨sb, 1, none⟩ rfl _) ⟨sb, 2, none⟩ rfl _⟩, by omega⟩
        go_wp2_with fail
        go_roundg j
        case measure => omega
        case rel => exact ⟨n', m' + 1, rfl, by omega, by omega, by omega, NX.out _ rfl⟩
end Go.Proofs.YtkkplbfbhmlnoaaDoor
