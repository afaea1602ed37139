/- (*decoder).readByteStuffedByte in terms of the bytes that are still to be read. Conditions: those of Src. -/
import Derived.Test.YtkkplbfbhmlnoaaDoorQc
namespace Go.Proofs.YtkkplbfbhmlnoaaDoor
open Go.RowKit

/-- The next byte of entropy-coded data, and what follows it. -/
def nxt : List UInt8 → Option (UInt8 × List UInt8)
  | [] => none
  | x :: xs => if x.toNat ≠ 255 then some (x, xs) else match xs with
    | [] => none
    | y :: ys => if y.toNat = 0 then some (255, ys) else none

def StufPost (w : World) (b r : Nat) (a1 a2 : Addr) (f : Nat → Value) (base : Option Addr) (cap : Nat) (data rest : List UInt8) (e : Ending) (w' : World) : Prop :=
  ∃ f', Chg (BR b r) w w' ∧ (∀ k, k < 4 ∨ 4103 ≤ k → f' k = f k) ∧
    ((∃ x xs, nxt rest = some (x, xs) ∧ e = .returned (.tuple #[.int .u8 (x.toNat : Int), .nilIface]) ∧ Src w' b r a1 a2 f' base cap data xs) ∨
     (nxt rest = none ∧ ∃ er, e = .returned (.tuple #[.int .u8 0, er]) ∧ (er = .iface 178 (.pointer (some a1)) ∨ ∃ s, er = .iface 103 (.string s)) ∧ (∃ rest', Src w' b r a1 a2 f' base cap data rest') ∧ (rest = [] → er = .iface 178 (.pointer (some a1)) ∧ f' 4102 = .int .i64 0 ∧ Src w' b r a1 a2 f' base cap data [])))

theorem nxt_plain (x : UInt8) (xs : List UInt8) (h : x.toNat ≠ 255) : nxt (x :: xs) = some (x, xs) := by simp [nxt, h]
theorem nxt_stuffed (x y : UInt8) (ys : List UInt8) (h : x.toNat = 255) (hy : y.toNat = 0) : nxt (x :: y :: ys) = some (255, ys) := by simp [nxt, h, hy]
theorem nxt_marker (x y : UInt8) (ys : List UInt8) (h : x.toNat = 255) (hy : y.toNat ≠ 0) : nxt (x :: y :: ys) = none := by simp [nxt, h, hy]
theorem nxt_last (x : UInt8) (h : x.toNat = 255) : nxt [x] = none := by simp [nxt, h]

/-- The place moved on by t bytes of the buffer. -/
theorem Src0.moved {w w' : World} {b r : Nat} {a1 a2 : Addr} {f f' : Nat → Value} {base : Option Addr} {cap : Nat} {data : List UInt8} {i j p : Nat} {bs : Nat → UInt8} {q : Value} (S : Src0 w b r a1 a2 f base cap data i j p bs)
    (M : Mid w b r (rdF (.slice base data.length cap) p q) f' w') (t : Nat) (ht : i + t ≤ j) (hi : f' 4100 = .int .i64 ((i : Int) + (t : Int))) (hout : ∀ k, k ≠ 4100 → k ≠ 4102 → f' k = f k) :
    Src w' b r a1 a2 f' base cap data (bufd bs (i + t) j ++ data.drop p) :=
  ⟨i + t, j, p, bs, S.of M (i + t) (hout 0 (by decide) (by decide)) (by rw [hi]; simp) (by rw [hout 4101 (by decide) (by decide)]; exact S.hj) ht (fun k hk => hout _ (by omega) (by omega)), rfl⟩

set_option maxRecDepth 100000 in
set_option maxHeartbeats 4000000 in
theorem stuffed_any (b r : Nat) (a1 a2 : Addr) (w : World) (f : Nat → Value) (base : Option Addr) (cap : Nat) (data rest : List UInt8) (h : Src w b r a1 a2 f base cap data rest) :
    Calls Tryd.prog 54 #[.pointer (some ⟨b, 0, none⟩)] w (StufPost w b r a1 a2 f base cap data rest) := by
  have HS := Lib.hid h
  obtain ⟨i, j, p, bs, S, hr⟩ := h
  have j4 := S.j4
  have ci := S.blk.at 4100 (by decide) S.hi
  have cj := S.blk.at 4101 (by decide) S.hj
  have cu := S.blk.at 4102 (by decide) rfl
  have fi := S.blk.free 4100
  have fu := S.blk.free 4102
  by_cases hij : i + 2 ≤ j
  · obtain ⟨q, M0⟩ := S.mid
    have hi4 : (i : Int) < 4095 := by omega
    have hrl : rest = bs i :: bs (i + 1) :: (bufd bs (i + 2) j ++ data.drop p) := by rw [hr, bufd_cons _ _ _ (by omega), bufd_cons _ _ _ (by omega)]; rfl
    have hne := Lib.hid S.ne
    have HM := Lib.hid M0
    have d1 : decide ((i : Int) + 2 ≤ (j : Int)) = true := by simp; omega
    obtain ⟨x, hx, hx6, cx⟩ : ∃ x : Nat, (bs i).toNat = x ∧ x < 256 ∧ w.cell? ⟨b, 4 + i, none⟩ = some (.int .u8 (x : Int)) := ⟨_, rfl, (bs i).toNat_lt, S.blk.at (4 + i) (by omega) (S.buf i (by omega))⟩
    obtain ⟨y, hy, hy6, cy⟩ : ∃ y : Nat, (bs (i + 1)).toNat = y ∧ y < 256 ∧ w.cell? ⟨b, 4 + (i + 1), none⟩ = some (.int .u8 (y : Int)) := ⟨_, rfl, (bs (i + 1)).toNat_lt, S.blk.at (4 + (i + 1)) (by omega) (S.buf (i + 1) (by omega))⟩
    have HSS := Lib.hid (And.intro S (And.intro hrl (And.intro hx hy)))
    clear S M0 hr hrl hx hy
    by_cases hx5 : x = 255
    · subst hx5
      by_cases hy0 : y = 0
      · subst hy0
        have FIN : Hid (∀ w', Mid w b r (rdF (.slice base data.length cap) p q) (upd (upd (upd (upd f 4100 (.int .i64 ((i : Int) + 1))) 4102 (.int .i64 1)) 4100 (.int .i64 ((i : Int) + 2))) 4102 (.int .i64 2)) w' → StufPost w b r a1 a2 f base cap data rest (.returned (.tuple #[.int .u8 255, .nilIface])) w') := fun w' M => by
          refine ⟨_, M.chg, fun k hk => by repeat rw [upd_ne _ _ _ _ (by omega)], .inl ⟨255, bufd bs (i + 2) j ++ data.drop p, by rw [HSS.out.2.1]; exact nxt_stuffed _ _ _ HSS.out.2.2.1 HSS.out.2.2.2, rfl, HSS.out.1.moved M 2 hij (by rw [upd_ne _ _ _ _ (by decide), upd_same]; rfl) (fun k h1 h2 => by repeat rw [upd_ne _ _ _ _ (by omega)])⟩⟩
        clear HS
        go_enter Tryd.func54, Tryd.ntmps54
        go_wp2_with fail
        go_quiet (fail)
        go_wp2_with fail
        go_quiet (fail)
        go_wp2_with fail
        go_quiet (fail)
        go_wp2_with fail
        go_ret2
        exact FIN.out _ (by repeat' (first | exact HM.out | refine Mid.drewN ?_ _ | refine Mid.drew ?_ | refine Mid.set ?_ hne.out (by decide) _))
      · have FIN : Hid (∀ s w', Mid w b r (rdF (.slice base data.length cap) p q) (upd (upd f 4100 (.int .i64 ((i : Int) + 1))) 4102 (.int .i64 1)) w' → StufPost w b r a1 a2 f base cap data rest (.returned (.tuple #[.int .u8 0, .iface 103 (.string s)])) w') := fun s w' M => by
          refine ⟨_, M.chg, fun k hk => by repeat rw [upd_ne _ _ _ _ (by omega)], .inr ⟨by rw [HSS.out.2.1]; exact nxt_marker _ _ _ HSS.out.2.2.1 (by rw [HSS.out.2.2.2]; exact hy0), _, rfl, .inr ⟨s, rfl⟩, ⟨_, HSS.out.1.moved M 1 (by omega) (by rw [upd_ne _ _ _ _ (by decide), upd_same]; rfl) (fun k h1 h2 => by repeat rw [upd_ne _ _ _ _ (by omega)])⟩, fun h => by rw [HSS.out.2.1] at h; cases h⟩⟩
        have e2 : ((y : Int) != 0) = true := by simp; omega
        clear HS
        go_enter Tryd.func54, Tryd.ntmps54
        go_wp2_with fail
        go_quiet (fail)
        go_wp2_with fail
        go_quiet (fail)
        go_wp2_with fail
        go_quiet (fail)
        go_wp2_with fail
        go_ret2
        exact FIN.out _ _ (by repeat' (first | exact HM.out | refine Mid.drewN ?_ _ | refine Mid.drew ?_ | refine Mid.set ?_ hne.out (by decide) _))
    · have FIN : Hid (∀ w', Mid w b r (rdF (.slice base data.length cap) p q) (upd (upd f 4100 (.int .i64 ((i : Int) + 1))) 4102 (.int .i64 1)) w' → StufPost w b r a1 a2 f base cap data rest (.returned (.tuple #[.int .u8 (x : Int), .nilIface])) w') := fun w' M => by
        refine ⟨upd (upd f 4100 (.int .i64 ((i : Int) + 1))) 4102 (.int .i64 1), M.chg, fun k hk => by repeat rw [upd_ne _ _ _ _ (by omega)], .inl ⟨bs i, bs (i + 1) :: (bufd bs (i + 2) j ++ data.drop p), by rw [HSS.out.2.1]; exact nxt_plain _ _ (by rw [HSS.out.2.2.1]; exact hx5), by rw [HSS.out.2.2.1], ?_⟩⟩
        have := HSS.out.1.moved M 1 (by omega) (by rw [upd_ne _ _ _ _ (by decide), upd_same]; rfl) (fun k h1 h2 => by repeat rw [upd_ne _ _ _ _ (by omega)])
        rw [bufd_cons _ _ _ (by omega)] at this
        exact this
      have e2 : ((x : Int) != 255) = true := by simp; omega
      clear HS cy
      go_enter Tryd.func54, Tryd.ntmps54
      go_wp2_with fail
      go_quiet (fail)
      go_wp2_with fail
      go_quiet (fail)
      go_wp2_with fail
      go_ret2
      exact FIN.out _ (by repeat' (first | exact HM.out | refine Mid.drewN ?_ _ | refine Mid.drew ?_ | refine Mid.set ?_ hne.out (by decide) _))
  · have d1 : decide ((i : Int) + 2 ≤ (j : Int)) = false := by simp; omega
    have hi4 : (i : Int) ≤ 4096 := by have := S.ij; omega
    clear S hr hij
    have S1 : Hid (∀ n, Src ((w.drewN n).setCell ⟨b, 4102, none⟩ (.int .i64 0)) b r a1 a2 (upd f 4102 (.int .i64 0)) base cap data rest) := fun n => (HS.out.drewN n).set (.inr (by decide)) (by decide) _
    go_enter Tryd.func54, Tryd.ntmps54
    go_wp2_with fail
    go_quiet (fail)
    go_wp2_with fail
    refine (readByte_any b r a1 a2 _ _ base cap data rest (S1.out _)).mono ?_
    clear S1 ci cj cu fi fu
    rintro e w2 ⟨f2, hC2, hf2, ⟨x, xs, hx, rfl, hS2, hu2⟩ | ⟨hx, rfl, hS2, hu2⟩⟩
    · obtain ⟨v, hv, hv6⟩ : ∃ v : Nat, x.toNat = v ∧ v < 256 := ⟨_, rfl, x.toNat_lt⟩
      have C2 : Chg (BR b r) w w2 := (((Chg.refl _ w).drewN _).setCell (p := ⟨b, 4102, none⟩) (fun _ => .inl rfl) _).trans hC2
      have hF2 : Hid (∀ k, k < 4 ∨ 4103 ≤ k → f2 k = f k) := fun k hk => by rw [hf2 k hk, upd_ne _ _ _ _ (by omega)]
      have cu := hS2.blk.at 4102 (by decide) hu2
      have fu := hS2.blk.free 4102
      have H2 := Lib.hid (And.intro C2 (And.intro hS2 (And.intro hx hv)))
      rw [hv]
      clear hC2 hf2 hS2 hu2 C2 hx hv
      by_cases hv5 : v = 255
      · subst hv5
        have S3 : Hid (Src (w2.setCell ⟨b, 4102, none⟩ (.int .i64 1)) b r a1 a2 (upd f2 4102 (.int .i64 1)) base cap data xs) := H2.out.2.1.set (.inr (by decide)) (by decide) _
        go_wp2_with fail
        refine (readByte_any b r a1 a2 _ _ base cap data xs S3.out).mono ?_
        clear S3 cu fu
        rintro e w3 ⟨f3, hC3, hf3, ⟨y, ys, hy, rfl, hS3, hu3⟩ | ⟨hy, rfl, hS3, hu3⟩⟩
        · obtain ⟨u, hu, hu6⟩ : ∃ u : Nat, y.toNat = u ∧ u < 256 := ⟨_, rfl, y.toNat_lt⟩
          have C3 : Chg (BR b r) w w3 := (H2.out.1.setCell (p := ⟨b, 4102, none⟩) (fun _ => .inl rfl) _).trans hC3
          have hF3 : Hid (∀ k, k < 4 ∨ 4103 ≤ k → f3 k = f k) := fun k hk => by rw [hf3 k hk, upd_ne _ _ _ _ (by omega), hF2.out k hk]
          have cu := hS3.blk.at 4102 (by decide) hu3
          have fu := hS3.blk.free 4102
          have H3 := Lib.hid (And.intro C3 (And.intro hS3 (And.intro hy hu)))
          rw [hu]
          clear hC3 hf3 hS3 hu3 C3 hy hu
          by_cases hu0 : u = 0
          · subst hu0
            have FIN : Hid (StufPost w b r a1 a2 f base cap data rest (.returned (.tuple #[.int .u8 255, .nilIface])) (w3.setCell ⟨b, 4102, none⟩ (.int .i64 2))) :=
              ⟨_, H3.out.1.setCell (p := ⟨b, 4102, none⟩) (fun _ => .inl rfl) _, fun k hk => by rw [upd_ne _ _ _ _ (by omega)]; exact hF3.out k hk, .inl ⟨255, ys, by rw [H2.out.2.2.1, H3.out.2.2.1]; exact nxt_stuffed _ _ _ H2.out.2.2.2 H3.out.2.2.2, rfl, H3.out.2.1.set (.inr (by decide)) (by decide) _⟩⟩
            go_wp2_with fail
            go_ret2
            exact FIN.out
          · have e2 : ((u : Int) != 0) = true := by simp; omega
            have FIN : Hid (∀ s, StufPost w b r a1 a2 f base cap data rest (.returned (.tuple #[.int .u8 0, .iface 103 (.string s)])) (w3.setCell ⟨b, 4102, none⟩ (.int .i64 2))) := fun s =>
              ⟨_, H3.out.1.setCell (p := ⟨b, 4102, none⟩) (fun _ => .inl rfl) _, fun k hk => by rw [upd_ne _ _ _ _ (by omega)]; exact hF3.out k hk, .inr ⟨by rw [H2.out.2.2.1, H3.out.2.2.1]; exact nxt_marker _ _ _ H2.out.2.2.2 (by rw [H3.out.2.2.2]; exact hu0), _, rfl, .inr ⟨s, rfl⟩, ⟨_, H3.out.2.1.set (.inr (by decide)) (by decide) _⟩, fun h => by rw [H2.out.2.2.1] at h; cases h⟩⟩
            clear hu0
            go_wp2_with fail
            go_ret2
            exact FIN.out _
        · have FIN : Hid (StufPost w b r a1 a2 f base cap data rest (.returned (.tuple #[.int .u8 0, .iface 178 (.pointer (some a1))])) w3) :=
            ⟨f3, (H2.out.1.setCell (p := ⟨b, 4102, none⟩) (fun _ => .inl rfl) _).trans hC3, fun k hk => by rw [hf3 k hk, upd_ne _ _ _ _ (by omega)]; exact hF2.out k hk, .inr ⟨by rw [H2.out.2.2.1, hy]; exact nxt_last _ H2.out.2.2.2, _, rfl, .inl rfl, ⟨_, hS3⟩, fun h => by rw [H2.out.2.2.1] at h; cases h⟩⟩
          clear hC3 hf3 hS3 hu3 hy H2
          go_wp2_with fail
          go_ret2
          exact FIN.out
      · have e2 : ((v : Int) != 255) = true := by simp; omega
        have FIN : Hid (StufPost w b r a1 a2 f base cap data rest (.returned (.tuple #[.int .u8 (v : Int), .nilIface])) (w2.setCell ⟨b, 4102, none⟩ (.int .i64 1))) :=
          ⟨_, H2.out.1.setCell (p := ⟨b, 4102, none⟩) (fun _ => .inl rfl) _, fun k hk => by rw [upd_ne _ _ _ _ (by omega)]; exact hF2.out k hk, .inl ⟨x, xs, by rw [H2.out.2.2.1]; exact nxt_plain _ _ (by rw [H2.out.2.2.2]; exact hv5), by rw [H2.out.2.2.2], H2.out.2.1.set (.inr (by decide)) (by decide) _⟩⟩
        clear hv5
        go_wp2_with fail
        go_ret2
        exact FIN.out
    · have FIN : Hid (StufPost w b r a1 a2 f base cap data rest (.returned (.tuple #[.int .u8 0, .iface 178 (.pointer (some a1))])) w2) :=
        ⟨f2, (((Chg.refl _ w).drewN _).setCell (p := ⟨b, 4102, none⟩) (fun _ => .inl rfl) _).trans hC2, fun k hk => by rw [hf2 k hk, upd_ne _ _ _ _ (by omega)], .inr ⟨by rw [hx]; rfl, _, rfl, .inl rfl, ⟨_, hS2⟩, fun _ => ⟨rfl, by rw [hu2, upd_same], hS2⟩⟩⟩
      clear hC2 hf2 hS2 hu2 hx HS
      go_wp2_with fail
      go_ret2
      exact FIN.out
end Go.Proofs.YtkkplbfbhmlnoaaDoor
