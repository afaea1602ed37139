/- (*decoder).fill: where nothing is left in the buffer it takes what the reader hands out; at the end it returns io.ErrUnexpectedEOF. Conditions: those of Src0. -/
import Derived.Test.YtkkplbfbhmlnoaaDoorRb
namespace Go.Proofs.YtkkplbfbhmlnoaaDoor
open Go.RowKit

/-- What fill leaves. -/
def FillPost (w : World) (b r : Nat) (a1 a2 : Addr) (f : Nat → Value) (base : Option Addr) (cap : Nat) (data : List UInt8) (p : Nat) (e : Ending) (w' : World) : Prop :=
  ∃ f' i' j' p' bs', Src0 w' b r a1 a2 f' base cap data i' j' p' bs' ∧ bufd bs' i' j' ++ data.drop p' = data.drop p ∧ (∀ k, k < 4 ∨ 4102 ≤ k → f' k = f k) ∧ Chg (BR b r) w w' ∧
    ((e = .returned .nilIface ∧ i' < j') ∨ (e = .returned (.iface 178 (.pointer (some a1))) ∧ i' = j' ∧ p = data.length))

theorem bufd_self (bs : Nat → UInt8) (i : Nat) : bufd bs i i = [] := by simp [bufd]

set_option maxRecDepth 100000 in
set_option maxHeartbeats 1000000 in
theorem fill_end0 (b r : Nat) (a1 a2 : Addr) (w : World) (f : Nat → Value) (base : Option Addr) (cap : Nat) (data : List UInt8) (j : Nat) (bs : Nat → UInt8) (h : Src0 w b r a1 a2 f base cap data j j data.length bs) (h2 : j ≤ 2) :
    Calls Tryd.prog 51 #[.pointer (some ⟨b, 0, none⟩)] w (FillPost w b r a1 a2 f base cap data data.length) := by
  have fin : ∀ n, FillPost w b r a1 a2 f base cap data data.length (.returned (.iface 178 (.pointer (some a1)))) ((w.drewN n).setCell ⟨b, 4101, none⟩ (.int .i64 j)) := fun n => by
    have hs : upd f 4101 (.int .i64 (j : Int)) = f := by
      funext k; unfold upd; split
      · rename_i e; rw [e]; exact h.hj.symm
      · rfl
    have C : Chg (BR b r) w ((w.drewN n).setCell ⟨b, 4101, none⟩ (.int .i64 j)) := ((Chg.refl _ w).drewN n).setCell (p := ⟨b, 4101, none⟩) (fun _ => .inl rfl) _
    refine ⟨f, j, j, data.length, bs, ⟨h.glob.chg C (fun k hk e => by have := h.b3; have := h.r3; rcases e with e | e <;> omega), ?_, h.b3, h.r3, h.ne, h.rd, h.hi, h.hj, h.ij, h.j4, h.buf, ?_, h.hp, h.hcap, h.hmax, h.dat.chg C (fun k hk e => by rcases e with e | e; exact hk.1 e; exact hk.2 e)⟩, ?_, fun _ _ => rfl, C, .inr ⟨rfl, rfl, rfl⟩⟩
    · have := (h.blk.drewN n).setCell (k := 4101) (by decide) (.int .i64 (j : Int))
      rw [hs] at this; exact this
    · obtain ⟨q, hq⟩ := h.rb
      exact ⟨q, (hq.drewN n).setOther (p := ⟨b, 4101, none⟩) (fun e => h.ne e.symm) _⟩
    · rw [bufd_self]; rfl
  obtain ⟨q, rb⟩ := h.rb
  have c0 := h.blk.at 0 (by decide) h.rd
  have ci := h.blk.at 4100 (by decide) h.hi
  have cj := h.blk.at 4101 (by decide) h.hj
  have fj := h.blk.free 4101
  have r0 := rb.at 0 (by decide) (v := .slice base data.length cap) rfl
  have r1 := rb.at 1 (by decide) (v := .int .i64 data.length) rfl
  have g1 := h.glob.g1
  have g2 := h.glob.g2
  have hmax := h.hmax
  have hcap := h.hcap
  have hB := h.b3
  have hR := h.r3
  have mR := fill_method
  have h2' : (j : Int) ≤ 2 := by omega
  have h4' : (j : Int) ≤ 4096 := by omega
  have h4'' : j ≤ 4096 := by omega
  have heq := eql178 a2
  have HR : Hid (∀ (n : Nat) (bv : Value), Calls Tryd.prog 74 #[.pointer (some ⟨r, 0, none⟩), bv] (w.drewN n) fun e w' => e = .returned (.tuple #[.int .i64 0, .iface 178 (.pointer (some a2))]) ∧ ∃ m, w' = (w.drewN n).drewN m) :=
    fun n bv => read_end r bv _ base data.length cap (w.drewN n) (by omega) r0 r1 g2
  clear h rb
  have FIN := Lib.hid fin
  clear fin
  go_enter Tryd.func51, Tryd.ntmps51
  go_wp2_with fail
  go_quiet (fail)
  go_wp2_with fail
  go_region_with (go_at_call 74; refine (HR.out _ _).mono ?_; rintro e w1 ⟨rfl, n, rfl⟩)
  all_goals go_wp2_with fail
  all_goals go_ret
  all_goals exact FIN.out _

/-- What Read has done. -/
def ReadDone (w : World) (b r : Nat) (f : Nat → Value) (base : Option Addr) (cap : Nat) (data : List UInt8) (j p m : Nat) (w' : World) : Prop :=
  Blk w' b 9020 (updRow f (4 + j) (given data p m)) ∧ Blk w' r 3 (rdF (.slice base data.length cap) ((p + m : Nat) : Int) (.int .i64 (-1))) ∧ Chg (BR b r) w w'

theorem read_done (b r : Nat) (a1 a2 : Addr) (w : World) (f : Nat → Value) (base : Option Addr) (cap : Nat) (data : List UInt8) (j p : Nat) (bs : Nat → UInt8) (h : Src0 w b r a1 a2 f base cap data j j p bs) (hj : j ≤ 4096) (hp : p < data.length)
    (m : Nat) (hm : m = Nat.min (data.length - p) (4096 - j)) (n : Nat) :
    Calls Tryd.prog 74 #[.pointer (some ⟨r, 0, none⟩), .slice (some ⟨b, 4 + j, none⟩) (4096 - j) (4096 - j)] (w.drewN n) fun e w' => e = .returned (.tuple #[.int .i64 (m : Int), .nilIface]) ∧
      w'.cell? ⟨b, 4101, none⟩ = some (.int .i64 j) ∧ w'.frozen? ⟨b, 4101, none⟩ = false ∧ Hid (ReadDone w b r f base cap data j p m w') := by
  obtain ⟨q, rb⟩ := h.rb
  have hmx := h.hmax
  have hcp := h.hcap
  rcases h.dat with hd | ⟨g, o, rfl, ⟨hgb, hgr⟩, hglt, hgc⟩
  · subst hd; simp at hp
  have hml : p + m ≤ data.length := by have : m ≤ data.length - p := by rw [hm]; exact Nat.min_le_left _ _
                                       omega
  have hmj : j + m ≤ 4096 := by have : m ≤ 4096 - j := by rw [hm]; exact Nat.min_le_right _ _
                                omega
  have hgl := given_length data p m hml
  have hgv : ∀ v ∈ given data p m, v.oneCell' = true := by
    intro v hv
    unfold given at hv
    obtain ⟨x, _, rfl⟩ := List.mem_map.1 hv
    rfl
  refine (read_some r b (4 + j) (4096 - j) (4096 - j) p q g o data.length cap (given data p m) (w.drewN n) hcp (by omega) hp h.ne (rb.at 0 (by decide) rfl) (rb.at 1 (by decide) rfl) (rb.at 2 (by decide) rfl) rb.free
    (by rw [hgl, hm]) ?_ hgr ?_ ?_ hgv).mono ?_
  · intro k v hk
    have hkm : k < m := by have := (List.getElem?_eq_some_iff.1 hk).1; omega
    rw [given_get data p m k hml hkm] at hk
    have e := Option.some.inj hk
    subst e
    exact hgc (p + k) (by omega)
  · intro k hk
    have := h.blk.cell (4 + j + k) (by omega)
    rw [World.cell?_drewN, this]
    rfl
  · intro k _
    exact h.blk.free _
  rintro e w' ⟨rfl, n', rfl⟩
  rw [hgl]
  have B : Blk (((((w.drewN n).drewN n').setCell ⟨r, 2, none⟩ (.int .i64 (-1))).setCells b (4 + j) (given data p m)).setCell ⟨r, 1, none⟩ (.int .i64 ((p + m : Nat) : Int))) b 9020 (updRow f (4 + j) (given data p m)) :=
    ((((h.blk.drewN n).drewN n').setOther (p := ⟨r, 2, none⟩) h.ne _).setCells (4 + j) _ (by rw [hgl]; omega)).setOther (p := ⟨r, 1, none⟩) h.ne _
  have R : Blk (((((w.drewN n).drewN n').setCell ⟨r, 2, none⟩ (.int .i64 (-1))).setCells b (4 + j) (given data p m)).setCell ⟨r, 1, none⟩ (.int .i64 ((p + m : Nat) : Int))) r 3 (upd (upd (rdF (.slice (some ⟨g, o, none⟩) data.length cap) p q) 2 (.int .i64 (-1))) 1 (.int .i64 ((p + m : Nat) : Int))) :=
    ((((rb.drewN n).drewN n').setCell (k := 2) (by decide) _).setOthers (fun e => h.ne e.symm) _ _).setCell (k := 1) (by decide) _
  have C : Chg (BR b r) w (((((w.drewN n).drewN n').setCell ⟨r, 2, none⟩ (.int .i64 (-1))).setCells b (4 + j) (given data p m)).setCell ⟨r, 1, none⟩ (.int .i64 ((p + m : Nat) : Int))) :=
    (Chg.setCells b (fun _ => .inl rfl) _ _ _ ((((Chg.refl _ w).drewN n).drewN n').setCell (p := ⟨r, 2, none⟩) (fun _ => .inr rfl) _)).setCell (p := ⟨r, 1, none⟩) (fun _ => .inr rfl) _
  refine ⟨rfl, ?_, B.free 4101, B, R.congr ?_, C⟩
  · rw [B.cell 4101 (by decide), updRow_out _ _ _ _ (by rw [hgl]; omega), h.hj]
  · intro k hk
    unfold upd rdF
    rcases k with _ | _ | _ | k
    · rfl
    · rfl
    · rfl
    · omega

set_option maxRecDepth 100000 in
set_option maxHeartbeats 1000000 in
theorem fill_some0 (b r : Nat) (a1 a2 : Addr) (w : World) (f : Nat → Value) (base : Option Addr) (cap : Nat) (data : List UInt8) (j p : Nat) (bs : Nat → UInt8) (h : Src0 w b r a1 a2 f base cap data j j p bs) (h2 : j ≤ 2) (hp : p < data.length) :
    Calls Tryd.prog 51 #[.pointer (some ⟨b, 0, none⟩)] w (FillPost w b r a1 a2 f base cap data p) := by
  obtain ⟨m, hm⟩ : ∃ m, m = Nat.min (data.length - p) (4096 - j) := ⟨_, rfl⟩
  have HR : Hid (∀ n v, v = .slice (some ⟨b, 4 + j, none⟩) (4096 - j) (4096 - j) → Calls Tryd.prog 74 #[.pointer (some ⟨r, 0, none⟩), v] (w.drewN n) fun e w' => e = .returned (.tuple #[.int .i64 (m : Int), .nilIface]) ∧
      w'.cell? ⟨b, 4101, none⟩ = some (.int .i64 j) ∧ w'.frozen? ⟨b, 4101, none⟩ = false ∧ Hid (ReadDone w b r f base cap data j p m w')) :=
    fun n v hv => by rw [hv]; exact read_done b r a1 a2 w f base cap data j p bs h (by omega) hp m hm n
  have hml : p + m ≤ data.length := by have : m ≤ data.length - p := by rw [hm]; exact Nat.min_le_left _ _
                                       omega
  have hmj : j + m ≤ 4096 := by have : m ≤ 4096 - j := by rw [hm]; exact Nat.min_le_right _ _
                                omega
  have hm0 : 0 < m := by rw [hm]; simp only [Nat.lt_min]; omega
  have fin : ∀ w1, ReadDone w b r f base cap data j p m w1 → FillPost w b r a1 a2 f base cap data p (.returned .nilIface) (w1.setCell ⟨b, 4101, none⟩ (.int .i64 ((j : Int) + (m : Int)))) := fun w1 ⟨B, R, C⟩ => by
    have C' := C.setCell (p := ⟨b, 4101, none⟩) (fun _ => .inl rfl) (.int .i64 ((j : Int) + (m : Int)))
    have S := src_filled h m hml hmj _ (B.setCell (k := 4101) (by decide) _) (R.setOther (p := ⟨b, 4101, none⟩) (fun e => h.ne e.symm) _) C'
    refine ⟨_, _, _, _, _, S, bufd_put bs data j p m hml, fun k hk => ?_, C', .inl ⟨rfl, by omega⟩⟩
    rw [upd_ne _ _ _ _ (by omega), updRow_out _ _ _ _ (by rw [given_length _ _ _ hml]; omega)]
  have FIN := Lib.hid fin
  clear fin
  have c0 := h.blk.at 0 (by decide) h.rd
  have ci := h.blk.at 4100 (by decide) h.hi
  have cj := h.blk.at 4101 (by decide) h.hj
  have hB := h.b3
  have hR := h.r3
  have mR := fill_method
  have h2' : (j : Int) ≤ 2 := by omega
  have h4' : (j : Int) ≤ 4096 := by omega
  have h4'' : j ≤ 4096 := by omega
  have hm' : 0 < (m : Int) := by omega
  have hm4 : (j : Int) + (m : Int) ≤ 4096 := by omega
  have h4n : ¬ 4096 = j := by omega
  clear h hm hml hmj hp
  go_enter Tryd.func51, Tryd.ntmps51
  go_wp2_with fail
  go_quiet (fail)
  go_wp2_with fail
  go_region_with (go_at_call 74; (with_reducible refine (HR.out _ _ rfl).mono ?_); rintro e w1 ⟨rfl, cj1, fj1, HD⟩)
  all_goals go_wp2_with fail
  all_goals go_ret
  all_goals exact FIN.out _ HD.out
end Go.Proofs.YtkkplbfbhmlnoaaDoor
