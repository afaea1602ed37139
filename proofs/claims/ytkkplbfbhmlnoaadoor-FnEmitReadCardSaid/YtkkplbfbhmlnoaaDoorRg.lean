/- (*decoder).readFull in terms of the bytes that are still to be read, where there are as many as it wants. Conditions: those of Src0; no byte to be given back. -/
import Derived.Test.YtkkplbfbhmlnoaaDoorRf
import Derived.Deep.LoopGhost
namespace Go.Proofs.YtkkplbfbhmlnoaaDoor
open Go.RowKit

theorem bufd_length (bs : Nat → UInt8) (i j : Nat) : (bufd bs i j).length = j - i := by simp [bufd]
theorem bufd_get (bs : Nat → UInt8) (i j t : Nat) (h : t < j - i) : (bufd bs i j)[t]? = some (bs (i + t)) := by
  unfold bufd
  rw [List.getElem?_map, List.getElem?_range h]
  rfl
theorem bufd_drop (bs : Nat → UInt8) (i j m : Nat) (h : m ≤ j - i) : (bufd bs i j).drop m = bufd bs (i + m) j := by
  apply List.ext_getElem?
  intro t
  rw [List.getElem?_drop]
  rcases Nat.lt_or_ge t (j - (i + m)) with ht | ht
  · rw [bufd_get _ _ _ _ (by omega), bufd_get _ _ _ _ ht, Nat.add_assoc]
  · rw [List.getElem?_eq_none (by rw [bufd_length]; omega), List.getElem?_eq_none (by rw [bufd_length]; omega)]

/-- The bytes that one copy takes. -/
def taken (bs : Nat → UInt8) (i m : Nat) : List Value := (List.range m).map fun t => .int .u8 ((bs (i + t)).toNat : Int)
theorem taken_length (bs : Nat → UInt8) (i m : Nat) : (taken bs i m).length = m := by simp [taken]
theorem taken_get (bs : Nat → UInt8) (i m t : Nat) (h : t < m) : (taken bs i m)[t]? = some (.int .u8 ((bs (i + t)).toNat : Int)) := by
  unfold taken
  rw [List.getElem?_map, List.getElem?_range h]
  rfl

/-- What readFull leaves. -/
def FullPost (w : World) (b r : Nat) (a1 a2 : Addr) (f : Nat → Value) (base : Option Addr) (cap : Nat) (data rest : List UInt8) (o n : Nat) (e : Ending) (w' : World) : Prop :=
  ∃ f', e = .returned .nilIface ∧ Chg (BR b r) w w' ∧ Src w' b r a1 a2 f' base cap data (rest.drop n) ∧ (∀ t, t < n → f' (o + t) = .int .u8 ((rest.getD t 0).toNat : Int)) ∧
    (∀ c, c < 4 ∨ (4103 ≤ c ∧ (c < o ∨ o + n ≤ c)) → f' c = f c) ∧ f' 4102 = .int .i64 0

theorem cutG {G : World → Prop} {w : World} (R : World → Prop) (h : R w) (k : ∀ W, R W → G W) : G w := k w h
theorem Mid.setCells {w : World} {b r : Nat} {g F : Nat → Value} {W : World} (h : Mid w b r g F W) (hne : r ≠ b) (o : Nat) (vs : List Value) (ho : o + vs.length ≤ 9020) : Mid w b r g (updRow F o vs) (W.setCells b o vs) :=
  ⟨h.blk.setCells o vs ho, h.rb.setOthers (fun e => hne e.symm) o vs, Chg.setCells b (fun _ => .inl rfl) vs o W h.chg⟩
theorem wpList_copy_n {P : Program} {w : World} {ops : Array Oper} {rest : List Oper} {o : Oper} {a : Act} {Q : Exit → Act → World → Prop} (hgd : o.guard = none) (d s : Operand) (dT sT : TypeId)
    (ho : o.op = .call { callee := .builtin .copy, args := #[d, s], argTypes := #[dT, sT] }) (elem : TypeId) (hu : P.underlying dT = some (.slice elem)) (hsz : (P.info? elem).map (·.size) = some 1)
    (g off : Nat) (dp : Option Addr) (dLen dCap : Nat) (sp : Option Addr) (sLen sCap : Nat) (hd : a.eval d = .slice dp dLen dCap) (hs : a.eval s = .slice sp sLen sCap)
    (cs : List Value) (N : Nat) (hN : cs.length = N) (hn : N = Nat.min sLen dLen)
    (hpos : 0 < N → dp = some ⟨g, off, none⟩ ∧ ∃ ad, sp = some ad ∧ ∀ j v, cs[j]? = some v → w.cell? (ad.add j) = some v)
    (hc : ∀ j, j < N → (w.cell? ⟨g, off + j, none⟩).isSome = true) (hf : ∀ j, j < N → w.frozen? ⟨g, off + j, none⟩ = false) (h1 : ∀ v ∈ cs, v.oneCell' = true)
    (h : wpList P ops Q rest (a.put o.dst (.int .i64 (N : Int))) (w.setCells g off cs)) : wpList P ops Q (o :: rest) a w := by
  subst hN
  exact wpList_copy_cells hgd d s dT sT ho elem hu hsz g off dp dLen dCap sp sLen sCap hd hs cs hn hpos hc hf h1 h
theorem taken_one (bs : Nat → UInt8) (i m : Nat) : ∀ v ∈ taken bs i m, v.oneCell' = true := by
  intro v hv
  unfold taken at hv
  obtain ⟨x, _, rfl⟩ := List.mem_map.1 hv
  rfl

/-- At the head of a round: k bytes have been read. -/
def FullRel (w : World) (b r : Nat) (a1 a2 : Addr) (f : Nat → Value) (base : Option Addr) (cap : Nat) (data rest : List UInt8) (o n pc : Nat) (gk : Nat) (v : Value) (wr : World) : Prop :=
  ∃ k m pm F i j p bs, v = .slice (some ⟨b, o + k, none⟩) m pm ∧ n = k + m ∧ pc = k + pm ∧ 0 < m ∧ Src0 wr b r a1 a2 F base cap data i j p bs ∧ rest.drop k = bufd bs i j ++ data.drop p ∧
    (∀ t, t < k → F (o + t) = .int .u8 ((rest.getD t 0).toNat : Int)) ∧ (∀ c, c < 4 ∨ (4103 ≤ c ∧ (c < o ∨ o + n ≤ c)) → F c = f c) ∧ F 4102 = .int .i64 0 ∧ Chg (BR b r) w wr ∧ 2 * m + (if i = j then 1 else 0) ≤ gk

/-- One copy. -/
theorem full_step {wr W : World} {b r : Nat} {a1 a2 : Addr} {F : Nat → Value} {base : Option Addr} {cap : Nat} {data rest : List UInt8} {o n k i j p m : Nat} {bs : Nat → UInt8} {q : Value}
    (S : Src0 wr b r a1 a2 F base cap data i j p bs) (hr : rest.drop k = bufd bs i j ++ data.drop p) (ho : 4103 ≤ o) (hm : m ≤ j - i) (hk : k + m ≤ n)
    (hF : ∀ t, t < k → F (o + t) = .int .u8 ((rest.getD t 0).toNat : Int))
    (M : Mid wr b r (rdF (.slice base data.length cap) p q) (upd (updRow F (o + k) (taken bs i m)) 4100 (.int .i64 ((i : Int) + (m : Int)))) W) :
    Src0 W b r a1 a2 (upd (updRow F (o + k) (taken bs i m)) 4100 (.int .i64 ((i : Int) + (m : Int)))) base cap data (i + m) j p bs ∧ rest.drop (k + m) = bufd bs (i + m) j ++ data.drop p ∧
    (∀ t, t < k + m → (upd (updRow F (o + k) (taken bs i m)) 4100 (.int .i64 ((i : Int) + (m : Int)))) (o + t) = .int .u8 ((rest.getD t 0).toNat : Int)) ∧
    (∀ c, c ≠ 4100 → (c < o ∨ o + n ≤ c) → (upd (updRow F (o + k) (taken bs i m)) 4100 (.int .i64 ((i : Int) + (m : Int)))) c = F c) := by
  have hij := S.ij
  have hj4 := S.j4
  have hout : ∀ c, c ≠ 4100 → (c < o ∨ o + n ≤ c) → (upd (updRow F (o + k) (taken bs i m)) 4100 (.int .i64 ((i : Int) + (m : Int)))) c = F c := fun c h1 h2 => by
    rw [upd_ne _ _ _ _ h1, updRow_out _ _ _ _ (by rw [taken_length]; omega)]
  have hget : ∀ t, t < m → rest.getD (k + t) 0 = bs (i + t) := fun t ht => by
    have h1 : (rest.drop k)[t]? = some (bs (i + t)) := by
      rw [hr, List.getElem?_append_left (by rw [bufd_length]; omega), bufd_get _ _ _ _ (by omega)]
    rw [List.getElem?_drop] at h1
    rw [List.getD_eq_getElem?_getD, h1]
    rfl
  refine ⟨S.of M (i + m) (hout 0 (by decide) (by omega)) (by rw [upd_same]; simp) (by rw [hout 4101 (by decide) (by omega)]; exact S.hj) (by omega) (fun c hc => hout _ (by omega) (by omega)), ?_, ?_, hout⟩
  · rw [← List.drop_drop, hr, List.drop_append, bufd_drop _ _ _ _ hm, bufd_length, show m - (j - i) = 0 by omega]
    rfl
  · intro t ht
    rw [upd_ne _ _ _ _ (by omega)]
    rcases Nat.lt_or_ge t k with h | h
    · rw [updRow_out _ _ _ _ (by omega)]; exact hF t h
    · obtain ⟨s, rfl⟩ : ∃ s, t = k + s := ⟨t - k, by omega⟩
      have hs : s < m := by omega
      have e := taken_get bs i m s hs
      rw [show o + (k + s) = o + k + s by omega, updRow_in _ _ _ _ (by rw [taken_length]; exact hs)]
      rw [List.getElem?_eq_getElem (by rw [taken_length]; exact hs)] at e
      rw [Option.some.inj e, hget s hs]

/-- The last copy. -/
theorem full_fin {w wr W : World} {b r : Nat} {a1 a2 : Addr} {f F : Nat → Value} {base : Option Addr} {cap : Nat} {data rest : List UInt8} {o n k i j p m : Nat} {bs : Nat → UInt8} {q : Value}
    (S : Src0 wr b r a1 a2 F base cap data i j p bs) (hr : rest.drop k = bufd bs i j ++ data.drop p) (ho : 4103 ≤ o) (hm : m ≤ j - i) (hn : n = k + m)
    (hF : ∀ t, t < k → F (o + t) = .int .u8 ((rest.getD t 0).toNat : Int)) (hout : ∀ c, c < 4 ∨ (4103 ≤ c ∧ (c < o ∨ o + n ≤ c)) → F c = f c) (hu : F 4102 = .int .i64 0) (hC : Chg (BR b r) w wr)
    (M : Mid wr b r (rdF (.slice base data.length cap) p q) (upd (updRow F (o + k) (taken bs i m)) 4100 (.int .i64 ((i : Int) + (m : Int)))) W) :
    FullPost w b r a1 a2 f base cap data rest o n (.returned .nilIface) W := by
  obtain ⟨S', hr', hF', ho'⟩ := full_step (n := n) S hr ho hm (by omega) hF M
  refine ⟨_, rfl, hC.trans M.chg, ⟨_, _, _, _, S', by rw [hn]; exact hr'⟩, fun t ht => hF' t (by omega), fun c hc => ?_, ?_⟩
  · rw [ho' c (by omega) (by omega)]; exact hout c hc
  · rw [ho' 4102 (by decide) (by omega)]; exact hu

/-- A copy that empties the buffer, and the fill behind it: the next round. -/
theorem full_next {w wr W w1 : World} {b r : Nat} {a1 a2 : Addr} {f F : Nat → Value} {base : Option Addr} {cap : Nat} {data rest : List UInt8} {o n pc k i p m pm c gk : Nat} {bs : Nat → UInt8} {q : Value} {e : Ending}
    (S : Src0 wr b r a1 a2 F base cap data i (i + c) p bs) (hr : rest.drop k = bufd bs i (i + c) ++ data.drop p) (ho : 4103 ≤ o) (hc : c < m) (hn : n = k + m) (hpc : pc = k + pm) (hpm : m ≤ pm) (hrest : n ≤ rest.length)
    (hF : ∀ t, t < k → F (o + t) = .int .u8 ((rest.getD t 0).toNat : Int)) (hout : ∀ c, c < 4 ∨ (4103 ≤ c ∧ (c < o ∨ o + n ≤ c)) → F c = f c) (hu : F 4102 = .int .i64 0) (hC : Chg (BR b r) w wr) (hg : 2 * m + (if i = i + c then 1 else 0) ≤ gk)
    (M : Mid wr b r (rdF (.slice base data.length cap) p q) (upd (updRow F (o + k) (taken bs i c)) 4100 (.int .i64 ((i : Int) + (c : Int)))) W)
    (P : FillPost W b r a1 a2 (upd (updRow F (o + k) (taken bs i c)) 4100 (.int .i64 ((i : Int) + (c : Int)))) base cap data p e w1) :
    e = .returned .nilIface ∧ ∃ gk', gk' < gk ∧ FullRel w b r a1 a2 f base cap data rest o n pc gk' (.slice (some ⟨b, o + k + c, none⟩) (m - c) (pm - c)) w1 := by
  obtain ⟨S', hr', hF', ho'⟩ := full_step (n := n) S hr ho (by omega) (by omega) hF M
  obtain ⟨f', i', j', p', bs', S2, hb2, hf2, hC2, h2⟩ := P
  have hne : rest.drop (k + c) ≠ [] := by
    intro h0
    have := congrArg List.length h0
    simp at this
    omega
  rw [bufd_self, List.nil_append] at hr'
  rcases h2 with ⟨rfl, hlt⟩ | ⟨rfl, _, hp⟩
  · refine ⟨rfl, 2 * (m - c), by split at hg <;> omega, k + c, m - c, pm - c, f', i', j', p', bs', by rw [Nat.add_assoc], by omega, by omega, by omega, S2, by rw [hr', hb2], fun t ht => ?_, fun d hd => ?_, ?_, (hC.trans M.chg).trans hC2, by rw [if_neg (by omega)]; omega⟩
    · rw [hf2 _ (by omega)]; exact hF' t ht
    · rw [hf2 _ (by omega), ho' d (by omega) (by omega)]; exact hout d hd
    · rw [hf2 _ (by omega), ho' 4102 (by decide) (by omega)]; exact hu
  · rw [hp, List.drop_length] at hr'
    exact absurd hr' hne

set_option maxRecDepth 100000 in
set_option maxHeartbeats 4000000 in
theorem readFull_any (b r : Nat) (a1 a2 : Addr) (w : World) (f : Nat → Value) (base : Option Addr) (cap : Nat) (data rest : List UInt8) (o n pc : Nat) (h : Src w b r a1 a2 f base cap data rest)
    (hu : f 4102 = .int .i64 0) (ho : 4103 ≤ o) (hon : o + n ≤ 9020) (hn : 0 < n) (hpc : n ≤ pc) (hpm : pc ≤ 9020) (hrest : n ≤ rest.length) :
    Calls Tryd.prog 41 #[.pointer (some ⟨b, 0, none⟩), .slice (some ⟨b, o, none⟩) n pc] w (FullPost w b r a1 a2 f base cap data rest o n) := by
  have START : Hid (FullRel w b r a1 a2 f base cap data rest o n pc (2 * n + 1) (.slice (some ⟨b, o, none⟩) n pc) w) := by
    obtain ⟨i, j, p, bs, S, hr⟩ := h
    exact ⟨0, n, pc, f, i, j, p, bs, rfl, by omega, by omega, hn, S, by simpa using hr, fun t ht => by omega, fun _ _ => rfl, hu, Chg.refl _ w, by split <;> omega⟩
  have cu : w.cell? ⟨b, 4102, none⟩ = some (.int .i64 0) := by
    obtain ⟨i, j, p, bs, S, hr⟩ := h
    exact S.blk.at 4102 (by decide) hu
  have fu : w.frozen? ⟨b, 4102, none⟩ = false := by
    obtain ⟨i, j, p, bs, S, hr⟩ := h
    exact S.blk.free 4102
  clear h hu
  go_enter Tryd.func41, Tryd.ntmps41
  go_wp2_with fail
  clear cu fu
  go_loopg [1] (2 * n + 1) (fun k v wr => FullRel w b r a1 a2 f base cap data rest o n pc k v wr)
  case atStart => exact START.out
  case round =>
    clear START
    obtain ⟨k, m, pm, F, i, j, p, bs, rfl, hnm, hpcm, hm0, S, hr, hF, hout, hu, hC, hg⟩ := hrel
    obtain ⟨q, M0⟩ := S.mid
    have hne := Lib.hid S.ne
    have hij := S.ij
    have hj4 := S.j4
    have ci := S.blk.at 4100 (by decide) S.hi
    have cj := S.blk.at 4101 (by decide) S.hj
    have fi := S.blk.free 4100
    have hij' : (i : Int) ≤ (j : Int) := by omega
    have hj4' : (j : Int) ≤ 4096 := by omega
    have hi4' : (i : Int) ≤ 4096 := by omega
    have hm4' : (m : Int) ≤ 9020 := by omega
    have hpm4 : m ≤ pm := by omega
    have hpm4' : (pm : Int) ≤ 9020 := by omega
    have HALL := Lib.hid (And.intro S (And.intro hr (And.intro hF (And.intro hout (And.intro hu (And.intro hC (And.intro hg M0)))))))
    have HN := Lib.hid hnm
    have HPC := Lib.hid hpcm
    have hokm : o + k + m ≤ 9020 := by omega
    clear S hr hF hout hu hC hg M0 hnm hpcm
    by_cases hi6 : 4096 = i
    · obtain rfl : i = 4096 := hi6.symm
      obtain rfl : j = 4096 := by omega
      have hpmc : ¬ pm = 0 := by omega
      have hz : ¬ m = 0 := by omega
      clear hi6 hij hij' hj4 hj4' hi4'
      go_wp2_with fail
      refine wp_region_tail 16 (by kernel_rfl) (by kernel_rfl) ?_
      simp only [List.take_succ_cons, List.take_zero, List.drop_succ_cons, List.drop_zero]
      repeat (go_big_quiet_step (fail))
      refine wpQuiet_nil ?_
      refine wpList_copy_n rfl (.tmp 25) (.tmp 40) 22 22 rfl 5 Tryd.underlying22 (by kernel_rfl) b (o + k) _ m pm _ 0 0 rfl rfl (taken bs 4096 0) 0 (taken_length _ _ _) (Nat.zero_min _).symm (fun h => absurd h (by omega)) (fun t ht => absurd ht (by omega)) (fun t ht => absurd ht (by omega)) (taken_one _ _ _) ?_
      refine cutG (Mid wr b r (rdF (.slice base data.length cap) p q) (updRow F (o + k) (taken bs 4096 0))) ((HALL.out.2.2.2.2.2.2.2.drew).setCells hne.out _ _ (by rw [taken_length]; omega)) ?_
      clear ci cj fi
      intro W M1
      have HM := Lib.hid M1
      have ci := M1.blk.at 4100 (by decide) (v := .int .i64 4096) (by rw [updRow_out _ _ _ _ (by omega)]; exact HALL.out.1.hi)
      have fi := M1.blk.free 4100
      clear M1
      go_wp2_with fail
      have M2 := HM.out.set hne.out (k := 4100) (by decide) (.int .i64 (((4096 : Nat) : Int) + ((0 : Nat) : Int)))
      have S2 := (full_step (n := n) HALL.out.1 HALL.out.2.1 ho (by omega) (by have := HN.out; omega) HALL.out.2.2.1 M2).1
      refine (fill_any b r a1 a2 _ _ base cap data (4096 + 0) p bs S2).mono ?_
      rintro e w1 hP
      obtain ⟨rfl, gk', hlt, hrel⟩ := full_next (c := 0) HALL.out.1 HALL.out.2.1 ho hm0 HN.out HPC.out hpm4 hrest HALL.out.2.2.1 HALL.out.2.2.2.1 HALL.out.2.2.2.2.1 HALL.out.2.2.2.2.2.1 HALL.out.2.2.2.2.2.2.1 M2 hP
      have HR := Lib.hid hrel
      clear hP hrel M2 S2 HM HALL ci fi
      go_wp2_with fail
      go_roundg gk'
      case measure => exact hlt
      case rel => exact HR.out
    by_cases hA : m ≤ j - i
    · go_wp2_with fail
      refine wp_region_tail 16 (by kernel_rfl) (by kernel_rfl) ?_
      simp only [List.take_succ_cons, List.take_zero, List.drop_succ_cons, List.drop_zero]
      repeat (go_big_quiet_step (fail))
      refine wpQuiet_nil ?_
      refine wpList_copy_n rfl (.tmp 25) (.tmp 40) 22 22 rfl 5 Tryd.underlying22 (by kernel_rfl) b (o + k) _ m pm _ (j - i) (4096 - i) rfl rfl (taken bs i m) m (taken_length _ _ _) (Nat.min_eq_right hA).symm ?_ ?_ ?_ (taken_one _ _ _) ?_
      · intro _
        refine ⟨rfl, _, rfl, fun t v ht => ?_⟩
        have htm : t < m := by have := (List.getElem?_eq_some_iff.1 ht).1; rw [taken_length] at this; exact this
        rw [taken_get _ _ _ _ htm] at ht
        rw [addr_add, World.cell?_drew, ← Option.some.inj ht, Nat.add_assoc]
        exact HALL.out.1.blk.at _ (by omega) (HALL.out.1.buf (i + t) (by omega))
      · intro t ht
        rw [World.cell?_drew, HALL.out.1.blk.cell _ (by omega)]
        rfl
      · intro t _
        exact HALL.out.1.blk.free _
      refine cutG (Mid wr b r (rdF (.slice base data.length cap) p q) (updRow F (o + k) (taken bs i m))) ((HALL.out.2.2.2.2.2.2.2.drew).setCells hne.out _ _ (by rw [taken_length]; exact hokm)) ?_
      clear ci cj fi
      intro W M1
      have HM := Lib.hid M1
      have ci := M1.blk.at 4100 (by decide) (v := .int .i64 i) (by rw [updRow_out _ _ _ _ (by omega)]; exact HALL.out.1.hi)
      have fi := M1.blk.free 4100
      clear M1
      have FIN : Hid (∀ w', Mid wr b r (rdF (.slice base data.length cap) p q) (upd (updRow F (o + k) (taken bs i m)) 4100 (.int .i64 ((i : Int) + (m : Int)))) w' → FullPost w b r a1 a2 f base cap data rest o n (.returned .nilIface) w') :=
        fun w' M => full_fin HALL.out.1 HALL.out.2.1 ho hA HN.out HALL.out.2.2.1 HALL.out.2.2.2.1 HALL.out.2.2.2.2.1 HALL.out.2.2.2.2.2.1 M
      go_wp2_with fail
      all_goals go_ret
      all_goals exact FIN.out _ (by repeat' (first | exact HM.out | refine Mid.drewN ?_ _ | refine Mid.drew ?_ | refine Mid.set ?_ hne.out (by decide) _))
    · go_wp2_with fail
      refine wp_region_tail 16 (by kernel_rfl) (by kernel_rfl) ?_
      simp only [List.take_succ_cons, List.take_zero, List.drop_succ_cons, List.drop_zero]
      repeat (go_big_quiet_step (fail))
      refine wpQuiet_nil ?_
      generalize hcc : j - i = c at *
      obtain rfl : j = i + c := by omega
      have hcm : c < m := by omega
      have hpmc : ¬ pm = c := by omega
      have hcm' : (c : Int) ≤ m := by omega
      have hz : ¬ m - c = 0 := by omega
      clear hcc hA hij hij' hj4'
      refine wpList_copy_n rfl (.tmp 25) (.tmp 40) 22 22 rfl 5 Tryd.underlying22 (by kernel_rfl) b (o + k) _ m pm _ c (4096 - i) rfl rfl (taken bs i c) c (taken_length _ _ _) (Nat.min_eq_left (Nat.le_of_lt hcm)).symm ?_ ?_ ?_ (taken_one _ _ _) ?_
      · intro _
        refine ⟨rfl, _, rfl, fun t v ht => ?_⟩
        have htm : t < c := by have := (List.getElem?_eq_some_iff.1 ht).1; rw [taken_length] at this; exact this
        rw [taken_get _ _ _ _ htm] at ht
        rw [addr_add, World.cell?_drew, ← Option.some.inj ht, Nat.add_assoc]
        exact HALL.out.1.blk.at _ (by omega) (HALL.out.1.buf (i + t) (by omega))
      · intro t ht
        rw [World.cell?_drew, HALL.out.1.blk.cell _ (by omega)]
        rfl
      · intro t _
        exact HALL.out.1.blk.free _
      refine cutG (Mid wr b r (rdF (.slice base data.length cap) p q) (updRow F (o + k) (taken bs i c))) ((HALL.out.2.2.2.2.2.2.2.drew).setCells hne.out _ _ (by rw [taken_length]; omega)) ?_
      clear ci cj fi
      intro W M1
      have HM := Lib.hid M1
      have ci := M1.blk.at 4100 (by decide) (v := .int .i64 i) (by rw [updRow_out _ _ _ _ (by omega)]; exact HALL.out.1.hi)
      have fi := M1.blk.free 4100
      clear M1
      go_wp2_with fail
      have M2 := HM.out.set hne.out (k := 4100) (by decide) (.int .i64 ((i : Int) + (c : Int)))
      have S2 := (full_step (n := n) HALL.out.1 HALL.out.2.1 ho (by omega) (by have := HN.out; omega) HALL.out.2.2.1 M2).1
      refine (fill_any b r a1 a2 _ _ base cap data (i + c) p bs S2).mono ?_
      rintro e w1 hP
      obtain ⟨rfl, gk', hlt, hrel⟩ := full_next HALL.out.1 HALL.out.2.1 ho hcm HN.out HPC.out hpm4 hrest HALL.out.2.2.1 HALL.out.2.2.2.1 HALL.out.2.2.2.2.1 HALL.out.2.2.2.2.2.1 HALL.out.2.2.2.2.2.2.1 M2 hP
      have HR := Lib.hid hrel
      clear hP hrel M2 S2 HM HALL ci fi
      go_wp2_with fail
      go_roundg gk'
      case measure => exact hlt
      case rel => exact HR.out
end Go.Proofs.YtkkplbfbhmlnoaaDoor
