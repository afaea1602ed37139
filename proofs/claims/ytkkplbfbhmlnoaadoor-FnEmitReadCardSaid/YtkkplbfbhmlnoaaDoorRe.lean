/- (*decoder).fill, whole. Conditions: those of Src0. -/
import Derived.Test.YtkkplbfbhmlnoaaDoorRd
namespace Go.Proofs.YtkkplbfbhmlnoaaDoor
open Go.RowKit

theorem fill_fin_end {b r : Nat} {a1 a2 : Addr} {w : World} {f : Nat → Value} {base : Option Addr} {cap : Nat} {data : List UInt8} {j : Nat} {bs : Nat → UInt8} (h : Src0 w b r a1 a2 f base cap data j j data.length bs) (n : Nat) :
    FillPost w b r a1 a2 f base cap data data.length (.returned (.iface 178 (.pointer (some a1)))) ((w.drewN n).setCell ⟨b, 4101, none⟩ (.int .i64 j)) := by
  have hs : upd f 4101 (.int .i64 (j : Int)) = f := by
    funext k; unfold upd; split
    · rename_i e; rw [e]; exact h.hj.symm
    · rfl
  have C : Chg (BR b r) w ((w.drewN n).setCell ⟨b, 4101, none⟩ (.int .i64 j)) := ((Chg.refl _ w).drewN n).setCell (p := ⟨b, 4101, none⟩) (fun _ => .inl rfl) _
  refine ⟨f, j, j, data.length, bs, ⟨h.glob.chg C (fun k hk e => by have := h.b3; have := h.r3; rcases e with e | e <;> omega), ?_, h.b3, h.r3, h.ne, h.rd, h.hi, h.hj, h.ij, h.j4, h.buf, ?_, h.hp, h.hcap, h.hmax, h.dat.chg C (fun k hk e => by rcases e with e | e; exact hk.1 e; exact hk.2 e)⟩, ?_, fun _ _ => rfl, C, .inr ⟨rfl, rfl, rfl⟩⟩
  · have := (h.blk.drewN n).setCell (k := 4101) (by decide) (.int .i64 (j : Int))
    rw [hs] at this; exact this
  · obtain ⟨q, hq⟩ := h.rb
    exact ⟨q, (hq.drewN n).setOther (p := ⟨b, 4101, none⟩) (fun e => h.ne e.symm) _⟩
  · rw [bufd_self]; rfl

set_option maxRecDepth 100000 in
set_option maxHeartbeats 2000000 in
theorem fill_end2 (b r : Nat) (a1 a2 : Addr) (w : World) (f : Nat → Value) (base : Option Addr) (cap : Nat) (data : List UInt8) (j : Nat) (bs : Nat → UInt8) (h : Src0 w b r a1 a2 f base cap data j j data.length bs) (h2 : 2 < j) :
    Calls Tryd.prog 51 #[.pointer (some ⟨b, 0, none⟩)] w (FillPost w b r a1 a2 f base cap data data.length) := by
  have H := Lib.hid h
  obtain ⟨q, rb⟩ := h.rb
  have M0 : Hid (Mid w b r (rdF (.slice base data.length cap) data.length q) f w) := ⟨h.blk, rb, Chg.refl _ w⟩
  have hne := Lib.hid h.ne
  have hj4 := h.j4
  have ci := h.blk.at 4100 (by decide) h.hi
  have cj := h.blk.at 4101 (by decide) h.hj
  have x2 := h.blk.at (4 + (j - 2)) (by omega) (h.buf (j - 2) (by omega))
  have c4 := h.blk.at 4 (by decide) (h.buf 0 (by omega))
  have f4 := h.blk.free 4
  have h2' : 2 < (j : Int) := by omega
  have h4' : (j : Int) ≤ 4096 := by omega
  have e2 : 0 ≤ (j : Int) - 2 := by omega
  have e2' : (j : Int) - 2 < 4096 := by omega
  have e1 : 0 ≤ (j : Int) - 1 := by omega
  have e1' : (j : Int) - 1 < 4096 := by omega
  clear h rb
  go_enter Tryd.func51, Tryd.ntmps51
  go_wp2_with fail
  go_quiet (fail)
  go_wp2_with fail
  refine wp_region_tail 17 (by kernel_rfl) (by kernel_rfl) ?_
  simp only [List.take_succ_cons, List.take_zero, List.drop_succ_cons, List.drop_zero]
  repeat (go_big_quiet_step (fail))
  refine wpQuiet_nil ?_
  go_wp2_with fail
  refine cutW (Mid w b r (rdF (.slice base data.length cap) data.length q) (upd f 4 (.int .u8 ((bs (j - 2)).toNat : Int)))) ((M0.out.drewN _).set hne.out (by decide) _) ?_
  clear M0 ci cj x2 c4 f4
  intro W M1
  have M0 := Lib.hid M1
  have cj := M1.blk.at 4101 (by decide) (v := .int .i64 j) (by rw [upd_ne _ _ _ _ (by decide)]; exact H.out.hj)
  have x1 := M1.blk.at (4 + (j - 1)) (by omega) (v := .int .u8 ((bs (j - 1)).toNat : Int)) (by rw [upd_ne _ _ _ _ (by omega)]; exact H.out.buf _ (by omega))
  have c5 := M1.blk.at 5 (by decide) (v := .int .u8 ((bs 1).toNat : Int)) (by rw [upd_ne _ _ _ _ (by decide)]; exact H.out.buf 1 (by omega))
  have ci := M1.blk.at 4100 (by decide) (v := .int .i64 j) (by rw [upd_ne _ _ _ _ (by decide)]; exact H.out.hi)
  have f5 := M1.blk.free 5
  have fi := M1.blk.free 4100
  have fj := M1.blk.free 4101
  clear M1
  refine wp_region_tail 17 (by kernel_rfl) (by kernel_rfl) ?_
  simp only [List.take_succ_cons, List.take_zero, List.drop_succ_cons, List.drop_zero]
  repeat (go_big_quiet_step (fail))
  refine wpQuiet_nil ?_
  go_wp2_with fail
  refine cutW (Mid w b r (rdF (.slice base data.length cap) data.length q) (fMove f bs j)) (by repeat' (first | exact M0.out | refine Mid.drewN ?_ _ | refine Mid.drew ?_ | refine Mid.set ?_ hne.out (by decide) _)) ?_
  clear M0 cj x1 c5 f5 ci fi fj
  intro W2 M2
  have S := fill_moved b r a1 a2 w W2 f base cap data j data.length bs q H.out M2
  have HC := Lib.hid M2.chg
  have r0 := M2.rb.at 0 (by decide) (v := .slice base data.length cap) rfl
  have r1 := M2.rb.at 1 (by decide) (v := .int .i64 data.length) rfl
  clear M2
  have HR : Hid (∀ bv, Calls Tryd.prog 74 #[.pointer (some ⟨r, 0, none⟩), bv] W2.drew fun e w' => e = .returned (.tuple #[.int .i64 0, .iface 178 (.pointer (some a2))]) ∧ ∃ m, w' = W2.drew.drewN m) :=
    fun bv => read_end r bv _ base data.length cap W2.drew (by have := S.hcap; have := S.hmax; omega) r0 r1 S.glob.g2
  have FIN : Hid (∀ n, FillPost w b r a1 a2 f base cap data data.length (.returned (.iface 178 (.pointer (some a1)))) ((W2.drewN n).setCell ⟨b, 4101, none⟩ (.int .i64 2))) :=
    fun n => FillPost.moved (j := j) (bs := bs) HC.out (fill_fin_end S n)
  have c0 := S.blk.at 0 (by decide) S.rd
  have cj := S.blk.at 4101 (by decide) (v := .int .i64 2) S.hj
  have fj := S.blk.free 4101
  have g1 := S.glob.g1
  have g2 := S.glob.g2
  have hB := S.b3
  have mR := fill_method
  have heq := eql178 a2
  clear S H hne HC h2 h2' h4' e2 e2' e1 e1' hj4
  go_region_with (go_at_call 74; (with_reducible refine (HR.out _).mono ?_); rintro e w1 ⟨rfl, n, rfl⟩)
  all_goals go_wp2_with fail
  all_goals go_ret
  all_goals exact FIN.out _

/-- fill, where nothing is left in the buffer. -/
theorem fill_any (b r : Nat) (a1 a2 : Addr) (w : World) (f : Nat → Value) (base : Option Addr) (cap : Nat) (data : List UInt8) (j p : Nat) (bs : Nat → UInt8) (h : Src0 w b r a1 a2 f base cap data j j p bs) :
    Calls Tryd.prog 51 #[.pointer (some ⟨b, 0, none⟩)] w (FillPost w b r a1 a2 f base cap data p) := by
  rcases Nat.lt_or_ge p data.length with hp | hp
  · rcases Nat.lt_or_ge 2 j with h2 | h2
    · exact fill_some2 b r a1 a2 w f base cap data j p bs h h2 hp
    · exact fill_some0 b r a1 a2 w f base cap data j p bs h h2 hp
  · obtain rfl : p = data.length := Nat.le_antisymm h.hp hp
    rcases Nat.lt_or_ge 2 j with h2 | h2
    · exact fill_end2 b r a1 a2 w f base cap data j bs h h2
    · exact fill_end0 b r a1 a2 w f base cap data j bs h h2
end Go.Proofs.YtkkplbfbhmlnoaaDoor
