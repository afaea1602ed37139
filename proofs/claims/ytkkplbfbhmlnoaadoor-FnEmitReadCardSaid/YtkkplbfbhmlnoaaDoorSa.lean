/- (*spec.bits).bit: the bit that it reads. Conditions: those of SB. -/
import Derived.Test.YtkkplbfbhmlnoaaDoorNc
namespace Go.Proofs.YtkkplbfbhmlnoaaDoor
open Go.RowKit

def sbF (sv : Value) (p u : Nat) (fl : Bool) : Nat → Value := fun k => if k = 0 then sv else if k = 1 then .int .i64 (p : Int) else if k = 2 then .int .i64 (u : Int) else .bool fl

/-- spec's reader of bits in block g: byte p of data, of which u bits have been read. -/
structure SB (w : World) (g : Nat) (base : Option Addr) (cap : Nat) (data : List UInt8) (p u : Nat) (fl : Bool) : Prop where
  blk : Blk w g 4 (sbF (.slice base data.length cap) p u fl)
  dat : Bytes w (fun k => k ≠ g) base data
  hp : p ≤ data.length
  hu : u < 8
  hcap : data.length ≤ cap
  hmax : cap ≤ 9223372036854775807

/-- What is left of l, of whose first byte u bits have been read. -/
def sl (l : List UInt8) (u : Nat) : Nat × Nat := match nxt l with
  | none => (0, 0)
  | some q => left q.2 (8 - u) q.1.toNat

theorem sl_zero (l : List UInt8) : sl l 0 = strm l := by
  unfold sl
  cases h : nxt l with
  | none => rw [strm_end h]
  | some q =>
    obtain ⟨x, xs⟩ := q
    obtain ⟨h1, _⟩ := strm_next h
    have hx := x.toNat_lt
    simp only [left, Nat.sub_zero]
    rw [h1, Nat.mod_eq_of_lt hx]

def BitPost (w : World) (g : Nat) (base : Option Addr) (cap : Nat) (data : List UInt8) (p u : Nat) (fl : Bool) (e : Ending) (w' : World) : Prop :=
  Chg (fun k => k = g) w w' ∧ ∃ p' u' fl', SB w' g base cap data p' u' fl' ∧
    ((fl' = true ∧ e = .returned (.int .i64 0) ∧ (fl = true ∨ (sl (data.drop p) u).1 = 0)) ∨
     (fl = false ∧ fl' = false ∧ ∃ L X, sl (data.drop p) u = (L + 1, X) ∧ e = .returned (.int .i64 ((X / 2 ^ L : Nat) : Int)) ∧ sl (data.drop p') u' = (L, X % 2 ^ L)))

/-- The data at one place. -/
theorem Bytes.at {w : World} {ok : Nat → Prop} {base : Option Addr} {l : List UInt8} (h : Bytes w ok base l) (k : Nat) (hk : k < l.length) : ∃ g o, base = some ⟨g, o, none⟩ ∧ ok g ∧ ∀ j (hj : j < l.length), w.cell? ⟨g, o + j, none⟩ = some (.int .u8 (l[j].toNat : Int)) := by
  rcases h with h | ⟨g, o, h1, h2, _, h3⟩
  · subst h; simp at hk
  · exact ⟨g, o, h1, h2, h3⟩

theorem SB.fail {w w' : World} {g : Nat} {base : Option Addr} {cap : Nat} {data : List UInt8} {p u : Nat} {fl : Bool} (S : SB w g base cap data p u fl) (hC : Chg (fun k => k = g) w w') (hB : Blk w' g 4 (upd (sbF (.slice base data.length cap) p u fl) 3 (.bool true))) : SB w' g base cap data p u true :=
  ⟨hB.congr (fun k hk => by
    match k, hk with
    | 0, _ => rfl
    | 1, _ => rfl
    | 2, _ => rfl
    | 3, _ => rfl), S.dat.chg hC (fun k hk e => hk e), S.hp, S.hu, S.hcap, S.hmax⟩

/-- While the reader's cells are turned. -/
structure M4 (w : World) (g : Nat) (F : Nat → Value) (W : World) : Prop where
  blk : Blk W g 4 F
  chg : Chg (fun k => k = g) w W
theorem M4.drewN {w : World} {g : Nat} {F : Nat → Value} {W : World} (h : M4 w g F W) (n : Nat) : M4 w g F (W.drewN n) := ⟨h.blk.drewN n, h.chg.drewN n⟩
theorem M4.drew {w : World} {g : Nat} {F : Nat → Value} {W : World} (h : M4 w g F W) : M4 w g F W.drew := h.drewN 1
theorem M4.set {w : World} {g : Nat} {F : Nat → Value} {W : World} (h : M4 w g F W) {k : Nat} (hk : k < 4) (v : Value) : M4 w g (upd F k v) (W.setCell ⟨g, k, none⟩ v) := ⟨h.blk.setCell hk v, h.chg.setCell (p := ⟨g, k, none⟩) (fun _ => rfl) v⟩
theorem SB.of {w W : World} {g : Nat} {base : Option Addr} {cap : Nat} {data : List UInt8} {p u : Nat} {fl : Bool} (S : SB w g base cap data p u fl) {F : Nat → Value} (M : M4 w g F W) (p' u' : Nat) (fl' : Bool) (h0 : F 0 = .slice base data.length cap) (h1 : F 1 = .int .i64 (p' : Int)) (h2 : F 2 = .int .i64 (u' : Int)) (h3 : F 3 = .bool fl') (hp : p' ≤ data.length) (hu : u' < 8) :
    SB W g base cap data p' u' fl' :=
  ⟨M.blk.congr (fun k hk => by
    match k, hk with
    | 0, _ => exact h0
    | 1, _ => exact h1
    | 2, _ => exact h2
    | 3, _ => exact h3), S.dat.chg M.chg (fun k hk e => hk e), hp, hu, S.hcap, S.hmax⟩

/-- A bit that is there. -/
theorem bit_there {w W : World} {g : Nat} {base : Option Addr} {cap : Nat} {data xs : List UInt8} {x : UInt8} {p u p' u' : Nat} (S' : SB W g base cap data p' u' false) (hC : Chg (fun k => k = g) w W) (hu : u < 8) (hx : nxt (data.drop p) = some (x, xs))
    (h : (u < 7 ∧ p' = p ∧ u' = u + 1) ∨ (u = 7 ∧ u' = 0 ∧ data.drop p' = xs)) (v : Int) (hv : v = ((x.toNat / 2 ^ (7 - u) % 2 : Nat) : Int)) : BitPost w g base cap data p u false (.returned (.int .i64 v)) W := by
  have e : sl (data.drop p) u = left xs (8 - u) x.toNat := by unfold sl; rw [hx]
  have hd := left_head xs (8 - u) x.toNat 1 (by omega)
  have ht := left_tail xs (8 - u) x.toNat 1 (by omega)
  have hL : (left xs (8 - u) x.toNat).1 = 7 - u + (strm xs).1 + 1 := by unfold left; simp only []; omega
  refine ⟨hC, p', u', false, S', .inr ⟨rfl, rfl, 7 - u + (strm xs).1, (left xs (8 - u) x.toNat).2, by rw [e, ← hL], ?_, ?_⟩⟩
  · rw [hv]
    rw [hL, show 8 - u - 1 = 7 - u by omega, show 7 - u + (strm xs).1 + 1 - 1 = 7 - u + (strm xs).1 by omega, Nat.pow_one] at hd
    rw [hd]
  · rw [hL, show 7 - u + (strm xs).1 + 1 - 1 = 7 - u + (strm xs).1 by omega] at ht
    rcases h with ⟨h1, h2, h3⟩ | ⟨h1, h2, h3⟩
    · subst h2 h3
      unfold sl
      rw [hx]
      simp only []
      rw [show 8 - (u + 1) = 8 - u - 1 by omega, ht]
    · subst h1 h2
      rw [sl_zero, h3, ← ht]
      unfold left
      simp [Nat.mod_one]

theorem bit_end {w W : World} {g : Nat} {base : Option Addr} {cap : Nat} {data : List UInt8} {p u : Nat} (S' : SB W g base cap data p u true) (hC : Chg (fun k => k = g) w W) (hx : nxt (data.drop p) = none) : BitPost w g base cap data p u false (.returned (.int .i64 0)) W :=
  ⟨hC, p, u, true, S', .inl ⟨rfl, rfl, .inr (by unfold sl; rw [hx])⟩⟩

set_option maxRecDepth 100000 in
set_option maxHeartbeats 4000000 in
theorem bit_failed (g : Nat) (base : Option Addr) (cap : Nat) (data : List UInt8) (w : World) (p u : Nat) (S : SB w g base cap data p u true) :
    Calls Tryd.prog 38 #[.pointer (some ⟨g, 0, none⟩)] w (BitPost w g base cap data p u true) := by
  have c3 := S.blk.at 3 (by decide) rfl
  have f3 := S.blk.free 3
  have HM : Hid (M4 w g (sbF (.slice base data.length cap) p u true) w) := ⟨S.blk, Chg.refl _ w⟩
  have FIN : Hid (∀ W, M4 w g (upd (sbF (.slice base data.length cap) p u true) 3 (.bool true)) W → BitPost w g base cap data p u true (.returned (.int .i64 0)) W) := fun W M =>
    ⟨M.chg, p, u, true, S.of M p u true rfl rfl rfl rfl S.hp S.hu, .inl ⟨rfl, rfl, .inl rfl⟩⟩
  have e3 : sbF (.slice base data.length cap) p u true 3 = .bool true := rfl
  rw [e3] at c3
  clear S
  go_enter Tryd.func38, Tryd.ntmps38
  go_wp2_with fail
  go_quiet (fail)
  go_wp2_with fail
  go_ret
  exact FIN.out _ (by repeat' (first | exact HM.out | refine M4.drewN ?_ _ | refine M4.drew ?_ | refine M4.set ?_ (by decide) _))

theorem bit_out (x u : Nat) (hx : x < 256) : bits .and .i64 (wrap64 ((x : Int) / 2 ^ (7 - u))) 1 = ((x / 2 ^ (7 - u) % 2 : Nat) : Int) := by
  have e3 : (x : Int) / 2 ^ (7 - u) = ((x / 2 ^ (7 - u) : Nat) : Int) := by push_cast; rfl
  have hlt : x / 2 ^ (7 - u) < 256 := Nat.lt_of_le_of_lt (Nat.div_le_self _ _) hx
  rw [e3]
  generalize x / 2 ^ (7 - u) = d at *
  have e4 : wrap64 (d : Int) = (d : Int) := by simp only [wrap64]; omega
  have := bits_mask .i64 62 (by decide) i64_small 1 (by decide) (d : Int) (by omega) (by omega)
  rw [e4]
  have h1 : (2 : Int) ^ 1 - 1 = 1 := by decide
  rw [h1] at this
  rw [this]
  omega

theorem bit_out7 (x : Nat) (hx : x < 256) : bits .and .i64 (x : Int) 1 = ((x / 2 ^ (7 - 7) % 2 : Nat) : Int) := by
  have := bits_mask .i64 62 (by decide) i64_small 1 (by decide) (x : Int) (by omega) (by omega)
  have h1 : (2 : Int) ^ 1 - 1 = 1 := by decide
  rw [h1] at this
  rw [this]
  simp

set_option maxRecDepth 100000 in
set_option maxHeartbeats 4000000 in
theorem bit_any (g : Nat) (base : Option Addr) (cap : Nat) (data : List UInt8) (w : World) (p u : Nat) (S : SB w g base cap data p u false) :
    Calls Tryd.prog 38 #[.pointer (some ⟨g, 0, none⟩)] w (BitPost w g base cap data p u false) := by
  have c0 : w.cell? ⟨g, 0, none⟩ = some (.slice base data.length cap) := S.blk.at 0 (by decide) rfl
  have c1 : w.cell? ⟨g, 1, none⟩ = some (.int .i64 (p : Int)) := S.blk.at 1 (by decide) rfl
  have c2 : w.cell? ⟨g, 2, none⟩ = some (.int .i64 (u : Int)) := S.blk.at 2 (by decide) rfl
  have c3 : w.cell? ⟨g, 3, none⟩ = some (.bool false) := S.blk.at 3 (by decide) rfl
  have f1 := S.blk.free 1
  have f2 := S.blk.free 2
  have f3 := S.blk.free 3
  have HM : Hid (M4 w g (sbF (.slice base data.length cap) p u false) w) := ⟨S.blk, Chg.refl _ w⟩
  have HS := Lib.hid S
  have hp := S.hp
  have hu := S.hu
  have hlm : data.length ≤ 9223372036854775807 := Nat.le_trans S.hcap S.hmax
  clear S
  have ENDS : nxt (data.drop p) = none → Hid (∀ W, M4 w g (upd (sbF (.slice base data.length cap) p u false) 3 (.bool true)) W → BitPost w g base cap data p u false (.returned (.int .i64 0)) W) := fun hx W M =>
    bit_end (HS.out.of M p u true rfl rfl rfl rfl HS.out.hp HS.out.hu) M.chg hx
  by_cases hend : p = data.length
  · have FIN := ENDS (by rw [hend, List.drop_length]; rfl)
    have d1 : decide (data.length ≤ p) = true := by simp; omega
    have hli : (data.length : Int) ≤ 9223372036854775807 := by omega
    clear ENDS HS hend hp hu hlm
    go_enter Tryd.func38, Tryd.ntmps38
    go_wp2_with fail
    go_quiet (fail)
    go_wp2_with fail
    go_ret
    exact FIN.out _ (by repeat' (first | exact HM.out | refine M4.drewN ?_ _ | refine M4.drew ?_ | refine M4.set ?_ (by decide) _))
  have hpl : p < data.length := by omega
  obtain ⟨gb, o, hbase, hgb, hcell⟩ := HS.out.dat.at p hpl
  have hd : data.drop p = data[p] :: data.drop (p + 1) := List.drop_eq_getElem_cons hpl
  have cx := hcell p hpl
  obtain ⟨x, hx, hx6⟩ : ∃ x : Nat, data[p].toNat = x ∧ x < 256 := ⟨_, rfl, data[p].toNat_lt⟩
  rw [hx] at cx
  subst hbase
  have d1 : decide (data.length ≤ p) = false := by simp; omega
  have hli : (data.length : Int) ≤ 9223372036854775807 := by omega
  by_cases hx5 : x = 255
  · subst hx5
    by_cases hp1 : p + 1 = data.length
    · have FIN := ENDS (by rw [hd, hp1, List.drop_length]; exact nxt_last _ hx)
      have d2 : decide (data.length ≤ p + 1) = true := by simp; omega
      have d3 : decide ((data.length : Int) ≤ (p : Int) + 1) = true := by simp; omega
      clear ENDS HS hend hp hu hlm hcell hd hx hp1
      go_enter Tryd.func38, Tryd.ntmps38
      go_wp2_with fail
      go_quiet (fail)
      go_wp2_with fail
      go_ret
      exact FIN.out _ (by repeat' (first | exact HM.out | refine M4.drewN ?_ _ | refine M4.drew ?_ | refine M4.set ?_ (by decide) _))
    · have hpl1 : p + 1 < data.length := by omega
      have hd1 : data.drop (p + 1) = data[p + 1] :: data.drop (p + 2) := List.drop_eq_getElem_cons hpl1
      have cy := hcell (p + 1) hpl1
      obtain ⟨y, hy, hy6⟩ : ∃ y : Nat, data[p + 1].toNat = y ∧ y < 256 := ⟨_, rfl, data[p + 1].toNat_lt⟩
      rw [hy] at cy
      have d2 : decide (data.length ≤ p + 1) = false := by simp; omega
      have d3 : decide ((data.length : Int) ≤ (p : Int) + 1) = false := by simp; omega
      by_cases hy0 : y = 0
      · subst hy0
        have NX : Hid (nxt (data.drop p) = some (255, data.drop (p + 2))) := by rw [hd, hd1]; exact nxt_stuffed _ _ _ hx hy
        by_cases hu7 : u = 7
        · subst hu7
          have FIN : Hid (∀ W v pv pw, M4 w g (upd (upd (upd (upd (sbF (.slice (some ⟨gb, o, none⟩) data.length cap) p 7 false) 2 (.int .i64 8)) 2 (.int .i64 0)) 1 (.int .i64 pw)) 1 (.int .i64 pv)) W → v = ((255 / 2 ^ (7 - 7) % 2 : Nat) : Int) → pv = ((p + 2 : Nat) : Int) → BitPost w g (some ⟨gb, o, none⟩) cap data p 7 false (.returned (.int .i64 v)) W) := fun W v pv pw M hv hpv =>
            bit_there (HS.out.of M (p + 2) 0 false rfl (by rw [upd_same, hpv]) rfl rfl hpl1 (by decide)) M.chg HS.out.hu NX.out (.inr ⟨rfl, rfl, rfl⟩) v hv
          clear ENDS HS hend hu hlm hcell hd hd1 hx hy
          go_enter Tryd.func38, Tryd.ntmps38
          go_wp2_with fail
          go_quiet (fail)
          go_wp2_with fail
          go_quiet (fail)
          go_wp2_with fail
          go_quiet (fail)
          go_wp2_with fail
          go_ret
          exact FIN.out _ _ _ _ (by repeat' (first | exact HM.out | refine M4.drewN ?_ _ | refine M4.drew ?_ | refine M4.set ?_ (by decide) _)) (by decide) (by omega)
        · have FIN : Hid (∀ W v, M4 w g (upd (sbF (.slice (some ⟨gb, o, none⟩) data.length cap) p u false) 2 (.int .i64 ((u : Int) + 1))) W → v = ((255 / 2 ^ (7 - u) % 2 : Nat) : Int) → BitPost w g (some ⟨gb, o, none⟩) cap data p u false (.returned (.int .i64 v)) W) := fun W v M hv =>
            bit_there (HS.out.of M p (u + 1) false rfl rfl (by rw [upd_same]; simp) rfl HS.out.hp (by omega)) M.chg HS.out.hu NX.out (.inl ⟨by omega, rfl, rfl⟩) v hv
          have hui : (u : Int) < 7 := by omega
          clear ENDS HS hend hu hlm hcell hd hd1 hx hy hu7
          go_enter Tryd.func38, Tryd.ntmps38
          go_wp2_with fail
          go_quiet (fail)
          go_wp2_with fail
          go_quiet (fail)
          go_wp2_with fail
          go_ret
          exact FIN.out _ _ (by repeat' (first | exact HM.out | refine M4.drewN ?_ _ | refine M4.drew ?_ | refine M4.set ?_ (by decide) _)) (bit_out 255 _ (by decide))
      · have FIN := ENDS (by rw [hd, hd1]; exact nxt_marker _ _ _ hx (by rw [hy]; exact hy0))
        have e6 : ((y : Int) != 0) = true := by simp; omega
        clear ENDS HS hend hp hu hlm hcell hd hd1 hx hy hy0
        go_enter Tryd.func38, Tryd.ntmps38
        go_wp2_with fail
        go_quiet (fail)
        go_wp2_with fail
        go_ret
        exact FIN.out _ (by repeat' (first | exact HM.out | refine M4.drewN ?_ _ | refine M4.drew ?_ | refine M4.set ?_ (by decide) _))
  · have e5 : ((x : Int) == 255) = false := by simp; omega
    by_cases hu7 : u = 7
    · subst hu7
      have FIN : Hid (∀ W v pv, M4 w g (upd (upd (upd (sbF (.slice (some ⟨gb, o, none⟩) data.length cap) p 7 false) 2 (.int .i64 8)) 2 (.int .i64 0)) 1 (.int .i64 pv)) W → v = ((x / 2 ^ (7 - 7) % 2 : Nat) : Int) → pv = ((p + 1 : Nat) : Int) → BitPost w g (some ⟨gb, o, none⟩) cap data p 7 false (.returned (.int .i64 v)) W) := fun W v pv M hv hpv =>
        bit_there (HS.out.of M (p + 1) 0 false rfl (by rw [upd_same, hpv]) rfl rfl hpl (by decide)) M.chg HS.out.hu (by rw [hd]; exact nxt_plain _ _ (by rw [hx]; exact hx5)) (.inr ⟨rfl, rfl, rfl⟩) v (by rw [hx]; exact hv)
      clear ENDS HS hend hu hlm hcell hd hx hx5
      go_enter Tryd.func38, Tryd.ntmps38
      go_wp2_with fail
      go_quiet (fail)
      go_wp2_with fail
      go_quiet (fail)
      go_wp2_with fail
      go_quiet (fail)
      go_wp2_with fail
      go_ret
      exact FIN.out _ _ _ (by repeat' (first | exact HM.out | refine M4.drewN ?_ _ | refine M4.drew ?_ | refine M4.set ?_ (by decide) _)) (bit_out7 x hx6) (by omega)
    · have FIN : Hid (∀ W v, M4 w g (upd (sbF (.slice (some ⟨gb, o, none⟩) data.length cap) p u false) 2 (.int .i64 ((u : Int) + 1))) W → v = ((x / 2 ^ (7 - u) % 2 : Nat) : Int) → BitPost w g (some ⟨gb, o, none⟩) cap data p u false (.returned (.int .i64 v)) W) := fun W v M hv =>
        bit_there (HS.out.of M p (u + 1) false rfl rfl (by rw [upd_same]; simp) rfl HS.out.hp (by omega)) M.chg HS.out.hu (by rw [hd]; exact nxt_plain _ _ (by rw [hx]; exact hx5)) (.inl ⟨by omega, rfl, rfl⟩) v (by rw [hx]; exact hv)
      have hui : (u : Int) < 7 := by omega
      clear ENDS HS hend hu hlm hcell hd hx hu7 hx5
      go_enter Tryd.func38, Tryd.ntmps38
      go_wp2_with fail
      go_quiet (fail)
      go_wp2_with fail
      go_quiet (fail)
      go_wp2_with fail
      go_ret
      exact FIN.out _ _ (by repeat' (first | exact HM.out | refine M4.drewN ?_ _ | refine M4.drew ?_ | refine M4.set ?_ (by decide) _)) (bit_out x _ hx6)
end Go.Proofs.YtkkplbfbhmlnoaaDoor
