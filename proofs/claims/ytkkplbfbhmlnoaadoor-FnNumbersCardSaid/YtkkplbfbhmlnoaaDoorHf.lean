/- (*decoder).decodeHuffman on the table of reads(): the first symbol by the look-up table, the second bit by bit. Conditions: the decoder holds that table; the bits are those of reads(). -/
import Derived.Test.YtkkplbfbhmlnoaaDoorHb
import Derived.Test.YtkkplbfbhmlnoaaDoorNb
import Derived.ScopeJumps
namespace Go.Proofs.YtkkplbfbhmlnoaaDoor
open Go.RowKit

abbrev missS : ByteArray := { data := #[109, 105, 115, 115, 105, 110, 103, 32, 48, 120, 102, 102, 48, 48, 32, 115, 101, 113, 117, 101, 110, 99, 101] }

def DHufPost (w : World) (b r : Nat) (a1 a2 : Addr) (base : Option Addr) (cap : Nat) (data : List UInt8) (f : Nat → Value) (k A m : Nat) (e : Ending) (w' : World) : Prop :=
  e = .returned (.tuple #[.int .u8 7, .nilIface]) ∧ ∃ f', Chg (BR b r) w w' ∧ BSt w' b r a1 a2 base cap data f' [] k A m ∧ (∀ c, 4103 ≤ c → f' c = f c)

theorem Tbl.of {F G : Nat → Value} (h : Tbl F) (hG : ∀ c, 4103 ≤ c → G c = F c) : Tbl G := by
  obtain ⟨h1, h2, h3, h4, h5, h6⟩ := h
  exact ⟨by rw [hG _ (by decide), h1], by rw [hG _ (by decide), h2], by rw [hG _ (by decide), h3], by rw [hG _ (by decide), h4], by rw [hG _ (by decide), h5], by rw [hG _ (by decide), h6]⟩

set_option maxRecDepth 100000 in
set_option maxHeartbeats 4000000 in
theorem decH1 (b r : Nat) (a1 a2 : Addr) (base : Option Addr) (cap : Nat) (data : List UInt8) (w : World) (f : Nat → Value) (h : BSt w b r a1 a2 base cap data f [63] 0 0 0) (hT : Tbl f) :
    Calls Tryd.prog 37 #[.pointer (some ⟨b, 0, none⟩), .pointer (some ⟨b, 4148, none⟩)] w (DHufPost w b r a1 a2 base cap data f 7 63 64) := by
  have EN := Lib.hid (ensure_any b r a1 a2 base cap data w f [63] 0 0 0 8 h (by decide) (by decide))
  have c0 := h.src.blk.at 4148 (by decide) hT.1
  have ck := h.src.blk.at 3 (by decide) h.hk
  have HT := Lib.hid hT
  clear h hT
  go_enter Tryd.func37, Tryd.ntmps37
  go_wp2_with fail
  go_step3
  go_wp2_with fail
  refine EN.out.mono ?_
  clear EN c0 ck
  rintro e w1 ⟨F, hC, hF, ⟨rest1, k1, A1, m1, rfl, S, hk1, hk2, hL1, hx⟩ | ⟨hlt, s, rfl, _⟩⟩
  · obtain ⟨hm, x, hx1, rfl, rfl⟩ := hx (by decide)
    obtain rfl := hm rfl
    cases hx1
    have T := Lib.hid (HT.out.of hF)
    have ca : w1.cell? ⟨b, 1, none⟩ = some (.int .u32 63) := S.src.blk.at 1 (by decide) S.ha
    have cm : w1.cell? ⟨b, 2, none⟩ = some (.int .u32 128) := S.src.blk.at 2 (by decide) S.hm
    have ck : w1.cell? ⟨b, 3, none⟩ = some (.int .i32 8) := S.src.blk.at 3 (by decide) S.hk
    have band : bits .and .u32 63 255 = 63 := by decide
    have fm := S.src.blk.free 2
    have fk := S.src.blk.free 3
    have cl := S.src.blk.at 4212 (by decide) T.out.2.1
    have band2 : bits .and .u16 1794 255 = 2 := by decide
    have FIN : Hid (∀ q v3 v2, v3 = 7 → v2 = 64 → DHufPost w b r a1 a2 base cap data f 7 63 64 (.returned (.tuple #[.int .u8 7, .nilIface])) (((w1.drewN q).setCell ⟨b, 3, none⟩ (.int .i32 v3)).setCell ⟨b, 2, none⟩ (.int .u32 v2))) := fun q v3 v2 h3 h2 => by
      subst h3 h2
      exact ⟨rfl, _, (((hC.drewN q).setCell (p := ⟨b, 3, none⟩) (fun _ => .inl rfl) _).setCell (p := ⟨b, 2, none⟩) (fun _ => .inl rfl) _),
        ⟨((S.src.drewN q).set (.inl (by decide)) (by decide) _).set (.inl (by decide)) (by decide) _, by rw [upd_ne _ _ _ _ (by decide), upd_ne _ _ _ _ (by decide)]; exact S.ha, by rw [upd_same]; rfl, by rw [upd_ne _ _ _ _ (by decide), upd_same]; rfl, by decide, by decide⟩,
        fun c hc => by rw [upd_ne _ _ _ _ (by omega), upd_ne _ _ _ _ (by omega)]; exact hF c hc⟩
    clear S hC hF hk1 hk2 hL1 hx
    go_wp2_with fail
    go_quiet (fail)
    go_wp2_with fail
    go_ret2
    exact FIN.out _ _ _ (by rfl) (by rfl)
  · exact absurd hlt (by decide)

/-- A scope in which the run jumps once at most, with one frame. -/
theorem wp_scope_jump1 {P : Program} {Q : Exit → Act → World → Prop} {a : Act} {w : World} {c rest : Code} (l : Nat) (A1 : Act) (R : World → Prop) (hf : findLabel c l = some rest)
    (first : c.wp P (Exit.jump l (fun a' w' => a' = A1 ∧ R w') Q) a w)
    (pass : ∀ w, R w → rest.wp P (Exit.jump l (fun _ _ => False) Q) A1 w) : (Code.scope c).wp P Q a w := by
  refine wp_scope_jumps l (fun a' w' => a' = A1 ∧ R w') (fun _ _ => 0) hf first ?_
  rintro a' w' ⟨rfl, hR⟩
  refine Code.wp_mono (fun e a2 w2 h => ?_) (pass w' hR)
  cases e <;> first | exact h | exact h.2.elim

def ShortW (w : World) (b r : Nat) (a1 a2 : Addr) (base : Option Addr) (cap : Nat) (data : List UInt8) (f : Nat → Value) (W : World) : Prop :=
  ∃ F, Chg (BR b r) w W ∧ BSt W b r a1 a2 base cap data F [] 7 63 64 ∧ (∀ c, 4103 ≤ c → F c = f c)

set_option maxRecDepth 100000 in
set_option maxHeartbeats 4000000 in
theorem decH2 (b r : Nat) (a1 a2 : Addr) (base : Option Addr) (cap : Nat) (data : List UInt8) (w : World) (f : Nat → Value) (h : BSt w b r a1 a2 base cap data f [] 7 63 64) (hT : Tbl f) :
    Calls Tryd.prog 37 #[.pointer (some ⟨b, 0, none⟩), .pointer (some ⟨b, 4148, none⟩)] w (DHufPost w b r a1 a2 base cap data f 6 63 32) := by
  have EN := Lib.hid (ensure_any b r a1 a2 base cap data w f [] 7 63 64 8 h (by decide) (by decide))
  have c0 := h.src.blk.at 4148 (by decide) hT.1
  have ck : w.cell? ⟨b, 3, none⟩ = some (.int .i32 7) := h.src.blk.at 3 (by decide) h.hk
  have HT := Lib.hid hT
  have hne1 : ∀ W, (binOp .neq 55 (.iface 103 (.string shortS)) (.iface 103 (.string missS))).run Tryd.prog W = .ok (.bool true) W := fun W => by kernel_rfl
  have hne2 : ∀ W, (binOp .neq 55 (.iface 103 (.string shortS)) (.iface 103 (.string shortS))).run Tryd.prog W = .ok (.bool false) W := fun W => by kernel_rfl
  clear h hT
  go_enter Tryd.func37, Tryd.ntmps37
  go_wp2_with fail
  apply wp_scope_jump1 0 _ (ShortW w b r a1 a2 base cap data f) rfl
  · skip
    go_wp2_with fail
    refine EN.out.mono ?_
    rintro e w1 ⟨F, hC, hF, ⟨rest1, k1, A1, m1, rfl, S, hk1, hk2, hL1, hx⟩ | ⟨hlt, s, rfl, hs⟩⟩
    · obtain ⟨hm, x, hx1, _⟩ := hx (by decide)
      cases hx1
    · obtain ⟨rfl, hu, S⟩ := hs rfl
      have cu := S.src.blk.at 4102 (by decide) hu
      have HS : Hid (ShortW w b r a1 a2 base cap data f w1) := ⟨F, hC, S, hF⟩
      clear S hC hF hlt hs
      go_wp2_with fail
      go_step3
      exact ⟨rfl, rfl, HS.out⟩
  · skip
    rintro W ⟨F, hC, S, hF⟩
    clear EN c0 ck hne1 hne2
    have ca : W.cell? ⟨b, 1, none⟩ = some (.int .u32 63) := S.src.blk.at 1 (by decide) S.ha
    have cm : W.cell? ⟨b, 2, none⟩ = some (.int .u32 64) := S.src.blk.at 2 (by decide) S.hm
    have ck : W.cell? ⟨b, 3, none⟩ = some (.int .i32 7) := S.src.blk.at 3 (by decide) S.hk
    have fm := S.src.blk.free 2
    have fk := S.src.blk.free 3
    have T := Lib.hid (HT.out.of hF)
    have t1 := S.src.blk.at 4405 (by decide) T.out.2.2.1
    have t2 := S.src.blk.at 4661 (by decide) T.out.2.2.2.1
    have t3 := S.src.blk.at 4677 (by decide) T.out.2.2.2.2.1
    have t4 := S.src.blk.at 4693 (by decide) T.out.2.2.2.2.2
    have band3 : bits .and .u32 63 64 = 0 := by decide
    go_wp2_with fail
    go_loopg [9, 10] 1 (fun g v9 v10 wr => v9 = .int .i64 0 ∧ v10 = .int .i32 0 ∧ wr = W)
    case atStart => exact ⟨rfl, rfl, rfl⟩
    case round =>
      obtain ⟨rfl, rfl, rfl⟩ := hrel
      have FIN : Hid (∀ q q2 v3 v2, v3 = 6 → v2 = 32 → DHufPost w b r a1 a2 base cap data f 6 63 32 (.returned (.tuple #[.int .u8 7, .nilIface])) ((((wr.drewN q).setCell ⟨b, 3, none⟩ (.int .i32 v3)).setCell ⟨b, 2, none⟩ (.int .u32 v2)).drewN q2)) := fun q q2 v3 v2 h3 h2 => by
        subst h3 h2
        exact ⟨rfl, _, (((hC.drewN q).setCell (p := ⟨b, 3, none⟩) (fun _ => .inl rfl) _).setCell (p := ⟨b, 2, none⟩) (fun _ => .inl rfl) _).drewN q2,
          ⟨(((S.src.drewN q).set (.inl (by decide)) (by decide) _).set (.inl (by decide)) (by decide) _).drewN q2, by rw [upd_ne _ _ _ _ (by decide), upd_ne _ _ _ _ (by decide)]; exact S.ha, by rw [upd_same]; rfl, by rw [upd_ne _ _ _ _ (by decide), upd_same]; rfl, by decide, by decide⟩,
          fun c hc => by rw [upd_ne _ _ _ _ (by omega), upd_ne _ _ _ _ (by omega)]; exact hF c hc⟩
      clear S hC hF
      go_wp2_with fail
      go_quiet (fail)
      go_wp2_with fail
      go_quiet (fail)
      go_wp2_with fail
      simp only [Exit.jump]
      go_ret2
      exact FIN.out _ _ _ _ (by rfl) (by rfl)
end Go.Proofs.YtkkplbfbhmlnoaaDoor
