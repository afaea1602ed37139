/- (*decoder).readByte in terms of the bytes that are still to be read. Conditions: those of Src0. -/
import Derived.Test.YtkkplbfbhmlnoaaDoorRe
namespace Go.Proofs.YtkkplbfbhmlnoaaDoor
open Go.RowKit

theorem Chg.ofDrewN {S : Nat → Prop} {w w' : World} {n : Nat} (h : Chg S (w.drewN n) w') : Chg S w w' := ⟨h.os, h.tape, h.output, h.size, h.block⟩
theorem Glob.drewN {w : World} {a1 a2 : Addr} (h : Glob w a1 a2) (n : Nat) : Glob (w.drewN n) a1 a2 := ⟨h.g0, h.g1, h.g2⟩
theorem Bytes.drewN {w : World} {ok : Nat → Prop} {base : Option Addr} {l : List UInt8} (h : Bytes w ok base l) (n : Nat) : Bytes (w.drewN n) ok base l := h
theorem Src0.drewN {w : World} {b r : Nat} {a1 a2 : Addr} {f : Nat → Value} {base : Option Addr} {cap : Nat} {data : List UInt8} {i j p : Nat} {bs : Nat → UInt8} (h : Src0 w b r a1 a2 f base cap data i j p bs) (n : Nat) : Src0 (w.drewN n) b r a1 a2 f base cap data i j p bs :=
  ⟨h.glob.drewN n, h.blk.drewN n, h.b3, h.r3, h.ne, h.rd, h.hi, h.hj, h.ij, h.j4, h.buf, (let ⟨q, hq⟩ := h.rb; ⟨q, hq.drewN n⟩), h.hp, h.hcap, h.hmax, h.dat.drewN n⟩
theorem FillPost.ofDrewN {w : World} {b r : Nat} {a1 a2 : Addr} {f : Nat → Value} {base : Option Addr} {cap : Nat} {data : List UInt8} {p n : Nat} {e : Ending} {w' : World} (h : FillPost (w.drewN n) b r a1 a2 f base cap data p e w') : FillPost w b r a1 a2 f base cap data p e w' := by
  obtain ⟨f', i', j', p', bs', S, hb, hf, C, hr⟩ := h
  exact ⟨f', i', j', p', bs', S, hb, hf, C.ofDrewN, hr⟩
/-- fill, behind draws. -/
theorem fill_at (b r : Nat) (a1 a2 : Addr) (w : World) (f : Nat → Value) (base : Option Addr) (cap : Nat) (data : List UInt8) (j p : Nat) (bs : Nat → UInt8) (h : Src0 w b r a1 a2 f base cap data j j p bs) (n : Nat) :
    Calls Tryd.prog 51 #[.pointer (some ⟨b, 0, none⟩)] (w.drewN n) (FillPost w b r a1 a2 f base cap data p) :=
  (fill_any b r a1 a2 (w.drewN n) f base cap data j p bs (h.drewN n)).mono fun _ _ h => h.ofDrewN

/-- The decoder in block b will read the bytes 'rest'. -/
def Src (w : World) (b r : Nat) (a1 a2 : Addr) (f : Nat → Value) (base : Option Addr) (cap : Nat) (data : List UInt8) (rest : List UInt8) : Prop :=
  ∃ i j p bs, Src0 w b r a1 a2 f base cap data i j p bs ∧ rest = bufd bs i j ++ data.drop p

theorem Src0.mid {w : World} {b r : Nat} {a1 a2 : Addr} {f : Nat → Value} {base : Option Addr} {cap : Nat} {data : List UInt8} {i j p : Nat} {bs : Nat → UInt8} (h : Src0 w b r a1 a2 f base cap data i j p bs) :
    ∃ q, Mid w b r (rdF (.slice base data.length cap) p q) f w := by
  obtain ⟨q, hq⟩ := h.rb
  exact ⟨q, h.blk, hq, Chg.refl _ w⟩

/-- The same source behind a change of the decoder's other cells. -/
theorem Src0.of {w w' : World} {b r : Nat} {a1 a2 : Addr} {f f' : Nat → Value} {base : Option Addr} {cap : Nat} {data : List UInt8} {i j p : Nat} {bs : Nat → UInt8} {q : Value} (h : Src0 w b r a1 a2 f base cap data i j p bs)
    (M : Mid w b r (rdF (.slice base data.length cap) p q) f' w') (i' : Nat) (h0 : f' 0 = f 0) (hi : f' 4100 = .int .i64 (i' : Int)) (hj : f' 4101 = .int .i64 (j : Int)) (hij : i' ≤ j) (hb : ∀ k, k < 4096 → f' (4 + k) = f (4 + k)) :
    Src0 w' b r a1 a2 f' base cap data i' j p bs where
  glob := h.glob.chg M.chg (fun k hk e => by have := h.b3; have := h.r3; rcases e with e | e <;> omega)
  blk := M.blk
  b3 := h.b3
  r3 := h.r3
  ne := h.ne
  rd := by rw [h0, h.rd]
  hi := hi
  hj := hj
  ij := hij
  j4 := h.j4
  buf := fun k hk => by rw [hb k hk, h.buf k hk]
  rb := ⟨q, M.rb⟩
  hp := h.hp
  hcap := h.hcap
  hmax := h.hmax
  dat := (h.dat.chg M.chg (fun k hk e => by rcases e with e | e; exact hk.1 e; exact hk.2 e))

theorem bufd_cons (bs : Nat → UInt8) (i j : Nat) (h : i < j) : bufd bs i j = bs i :: bufd bs (i + 1) j := by
  unfold bufd
  rw [show j - i = (j - (i + 1)) + 1 by omega, List.range_succ_eq_map]
  simp only [List.map_cons, List.map_map, Nat.add_zero, List.cons.injEq, true_and]
  apply List.map_congr_left
  intro k _
  simp only [Function.comp]
  rw [show i + (k + 1) = i + 1 + k by omega]

/-- What readByte leaves. -/
def BytePost (w : World) (b r : Nat) (a1 a2 : Addr) (f : Nat → Value) (base : Option Addr) (cap : Nat) (data rest : List UInt8) (e : Ending) (w' : World) : Prop :=
  ∃ f', Chg (BR b r) w w' ∧ (∀ k, k < 4 ∨ 4103 ≤ k → f' k = f k) ∧
    ((∃ x xs, rest = x :: xs ∧ e = .returned (.tuple #[.int .u8 (x.toNat : Int), .nilIface]) ∧ Src w' b r a1 a2 f' base cap data xs ∧ f' 4102 = .int .i64 0) ∨
     (rest = [] ∧ e = .returned (.tuple #[.int .u8 0, .iface 178 (.pointer (some a1))]) ∧ Src w' b r a1 a2 f' base cap data [] ∧ f' 4102 = f 4102))

/-- A byte taken out of the buffer. -/
theorem byte_taken {w W w' : World} {b r : Nat} {a1 a2 : Addr} {f F : Nat → Value} {base : Option Addr} {cap : Nat} {data : List UInt8} {i j p : Nat} {bs : Nat → UInt8} {q : Value} {rest : List UInt8} (S : Src0 W b r a1 a2 F base cap data i j p bs) (hij : i < j)
    (hC : Chg (BR b r) w W) (hF : ∀ k, k < 4 ∨ 4102 ≤ k → F k = f k) (hr : rest = bufd bs i j ++ data.drop p)
    (M : Mid W b r (rdF (.slice base data.length cap) p q) (upd (upd F 4100 (.int .i64 ((i : Int) + 1))) 4102 (.int .i64 0)) w') :
    BytePost w b r a1 a2 f base cap data rest (.returned (.tuple #[.int .u8 ((bs i).toNat : Int), .nilIface])) w' := by
  have S' := S.of M (i + 1) (by rw [upd_ne _ _ _ _ (by decide), upd_ne _ _ _ _ (by decide)]) (by rw [upd_ne _ _ _ _ (by decide), upd_same]; simp) (by rw [upd_ne _ _ _ _ (by decide), upd_ne _ _ _ _ (by decide)]; exact S.hj) hij
    (fun k hk => by rw [upd_ne _ _ _ _ (by omega), upd_ne _ _ _ _ (by omega)])
  refine ⟨_, hC.trans M.chg, fun k hk => ?_, .inl ⟨bs i, bufd bs (i + 1) j ++ data.drop p, ?_, rfl, ⟨_, _, _, _, S', rfl⟩, upd_same _ _ _⟩⟩
  · rw [upd_ne _ _ _ _ (by omega), upd_ne _ _ _ _ (by omega)]; exact hF k (by omega)
  · rw [hr, bufd_cons _ _ _ hij]; rfl

set_option maxRecDepth 100000 in
set_option maxHeartbeats 2000000 in
theorem readByte_any (b r : Nat) (a1 a2 : Addr) (w : World) (f : Nat → Value) (base : Option Addr) (cap : Nat) (data rest : List UInt8) (h : Src w b r a1 a2 f base cap data rest) :
    Calls Tryd.prog 40 #[.pointer (some ⟨b, 0, none⟩)] w (BytePost w b r a1 a2 f base cap data rest) := by
  obtain ⟨i, j, p, bs, S, hr⟩ := h
  have j4 := S.j4
  rcases Nat.lt_or_ge i j with hij | hij
  · obtain ⟨q, M0⟩ := S.mid
    have ci := S.blk.at 4100 (by decide) S.hi
    have cj := S.blk.at 4101 (by decide) S.hj
    have cx := S.blk.at (4 + i) (by omega) (S.buf i (by omega))
    have cu := S.blk.at 4102 (by decide) rfl
    have fi := S.blk.free 4100
    have fu := S.blk.free 4102
    have hne := Lib.hid S.ne
    have FIN : Hid (∀ w', Mid w b r (rdF (.slice base data.length cap) p q) (upd (upd f 4100 (.int .i64 ((i : Int) + 1))) 4102 (.int .i64 0)) w' → BytePost w b r a1 a2 f base cap data rest (.returned (.tuple #[.int .u8 ((bs i).toNat : Int), .nilIface])) w') :=
      fun w' M => byte_taken S hij (Chg.refl _ w) (fun _ _ => rfl) hr M
    have HM := Lib.hid M0
    have hb : ((i : Int) == (j : Int)) = false := by simp; omega
    have hi4 : (i : Int) < 4096 := by omega
    clear S M0 hr
    go_enter Tryd.func40, Tryd.ntmps40
    go_wp2_with fail
    refine wp_loop_once ?_
    go_wp2_with fail
    go_quiet (fail)
    go_wp2_with fail
    go_quiet (fail)
    go_wp2_with fail
    go_ret2
    exact FIN.out _ (by repeat' (first | exact HM.out | refine Mid.drewN ?_ _ | refine Mid.drew ?_ | refine Mid.set ?_ hne.out (by decide) _))
  · obtain rfl : i = j := Nat.le_antisymm S.ij hij
    have HF := Lib.hid (fill_at b r a1 a2 w f base cap data i p bs S)
    have ci := S.blk.at 4100 (by decide) S.hi
    have cj := S.blk.at 4101 (by decide) S.hj
    have hr2 : rest = data.drop p := by rw [hr, bufd_self]; rfl
    have HRest := Lib.hid hr2
    clear S hr hr2
    go_enter Tryd.func40, Tryd.ntmps40
    go_wp2_with fail
    refine wp_loop_rounds 2 ?_
    rw [rounds_succ]
    go_wp2_with fail
    go_quiet (fail)
    go_wp2_with fail
    refine (HF.out _).mono ?_
    clear HF ci cj
    rintro e w1 ⟨f', i', j', p', bs', S, hb', hf', hC', hr'⟩
    rcases hr' with ⟨rfl, hlt⟩ | ⟨rfl, rfl, hp⟩
    · obtain ⟨q, M0⟩ := S.mid
      have j4' := S.j4
      have ci := S.blk.at 4100 (by decide) S.hi
      have cj := S.blk.at 4101 (by decide) S.hj
      have cx := S.blk.at (4 + i') (by omega) (S.buf i' (by omega))
      have cu := S.blk.at 4102 (by decide) rfl
      have fi := S.blk.free 4100
      have fu := S.blk.free 4102
      have hne := Lib.hid S.ne
      have FIN : Hid (∀ w', Mid w1 b r (rdF (.slice base data.length cap) p' q) (upd (upd f' 4100 (.int .i64 ((i' : Int) + 1))) 4102 (.int .i64 0)) w' → BytePost w b r a1 a2 f base cap data rest (.returned (.tuple #[.int .u8 ((bs' i').toNat : Int), .nilIface])) w') :=
        fun w' M => byte_taken S hlt hC' hf' (by rw [HRest.out, hb']) M
      have HM := Lib.hid M0
      have hb : ((i' : Int) == (j' : Int)) = false := by simp; omega
      have hi4 : (i' : Int) < 4096 := by omega
      clear S M0 hb' hf' hC' hij
      go_wp2_with fail
      rw [rounds_succ]
      go_wp2_with fail
      go_quiet (fail)
      go_wp2_with fail
      go_quiet (fail)
      go_wp2_with fail
      go_ret2
      exact FIN.out _ (by repeat' (first | exact HM.out | refine Mid.drewN ?_ _ | refine Mid.drew ?_ | refine Mid.set ?_ hne.out (by decide) _))
    · have FIN : Hid (BytePost w b r a1 a2 f base cap data rest (.returned (.tuple #[.int .u8 0, .iface 178 (.pointer (some a1))])) w1) :=
        ⟨f', hC', fun k hk => hf' k (by omega), .inr ⟨by rw [HRest.out, hp, List.drop_length], rfl, ⟨_, _, _, _, S, by rw [hb', hp, List.drop_length]⟩, hf' 4102 (by omega)⟩⟩
      clear S hb' hf' hC' hp
      go_wp2_with fail
      go_ret2
      exact FIN.out
end Go.Proofs.YtkkplbfbhmlnoaaDoor
