/- (*encoder).writeByte and (*encoder).emit: what lies in the buffer behind them. Conditions: those of EncSt. -/
import Derived.Test.YtkkplbfbhmlnoaaDoorSh
import Derived.Test.YtkkplbfbhmlnoaaDoorPa
import Derived.Test.YtkkplbfbhmlnoaaDoorZb
namespace Go.Proofs.YtkkplbfbhmlnoaaDoor
open Go.RowKit

def bv (x : UInt8) : Value := .int .u8 (x.toNat : Int)

theorem isBuffer_set {B b eb : Nat} {bs : List Value} {W : World} {cs : Array Value} {fz : Nat × Nat} (h : Lib.IsBuffer 116 5 B b bs W) (he : W.heap[eb]? = some (.cells cs 128 fz)) {p : Addr} (hp : p.block = eb) (v : Value) : Lib.IsBuffer 116 5 B b bs (W.setCell p v) := by
  obtain ⟨h1, u, lr, hb, ho, hn⟩ := h
  have hne : b ≠ eb := fun e => by rw [e, he] at hb; simp at hb
  refine ⟨h1, u, lr, by rw [heap_setCell_other _ _ _ _ (by rw [hp]; exact hne)]; exact hb, ⟨ho.1, ?_⟩, hn⟩
  rcases ho.2 with h2 | ⟨g, cap, cur, hv, hB, hg, r⟩
  · exact .inl h2
  · have hge : g ≠ eb := fun e => by rw [e, he] at hg; simp at hg
    exact .inr ⟨g, cap, cur, hv, hB, by rw [heap_setCell_other _ _ _ _ (by rw [hp]; exact hge)]; exact hg, r⟩

/-- The encoder in block eb, its buffer in block gb. -/
structure EncSt (w W : World) (gb eb : Nat) (bs : List UInt8) (Bv q : Nat) : Prop where
  buf : Lib.IsBuffer 116 5 gb gb (bs.map bv) W
  enc : ∃ cs, W.heap[eb]? = some (.cells cs 128 (0, 0)) ∧ cs[0]? = some (.iface 119 (.agg #[.pointer (some ⟨gb, 0, none⟩)])) ∧ cs[1]? = some .nilIface ∧ cs[18]? = some (.int .u32 (Bv : Int)) ∧ cs[19]? = some (.int .u32 (q : Int))
  bel : Below gb w W
  gw : gb = w.heap.size
  ge : gb ≤ eb

theorem EncSt.cells {w W : World} {gb eb : Nat} {bs : List UInt8} {Bv q : Nat} (h : EncSt w W gb eb bs Bv q) : W.cell? ⟨eb, 0, none⟩ = some (.iface 119 (.agg #[.pointer (some ⟨gb, 0, none⟩)])) ∧ W.cell? ⟨eb, 1, none⟩ = some .nilIface ∧ W.cell? ⟨eb, 18, none⟩ = some (.int .u32 (Bv : Int)) ∧ W.cell? ⟨eb, 19, none⟩ = some (.int .u32 (q : Int)) ∧ ∀ k, W.frozen? ⟨eb, k, none⟩ = false := by
  obtain ⟨cs, h1, h2, h3, h4, h5⟩ := h.enc
  exact ⟨by rw [Lib.cell_of_heap h1]; exact h2, by rw [Lib.cell_of_heap h1]; exact h3, by rw [Lib.cell_of_heap h1]; exact h4, by rw [Lib.cell_of_heap h1]; exact h5, fun k => Lib.frozen_of_heap h1 k⟩

theorem EncSt.gsz {w W : World} {gb eb : Nat} {bs : List UInt8} {Bv q : Nat} (h : EncSt w W gb eb bs Bv q) : gb ≤ W.heap.size := Nat.le_of_lt h.buf.lt

theorem EncSt.written {w W W' : World} {gb eb : Nat} {bs : List UInt8} {Bv q : Nat} (h : EncSt w W gb eb bs Bv q) (c : Nat) (hc : c < 256) (hb : Lib.IsBuffer 116 5 gb gb (bs.map bv ++ [.int .u8 (c : Int)]) W') (hB : Below gb W W') (hk : Lib.OthersKept 5 (some gb) W W') :
    EncSt w W' gb eb (bs ++ [UInt8.ofNat c]) Bv q := by
  obtain ⟨cs, h1, h2, h3, h4, h5⟩ := h.enc
  obtain ⟨_, u, lr, hbk, _, _⟩ := h.buf
  have hne : eb ≠ gb := fun e => by rw [e, hbk] at h1; simp at h1
  refine ⟨?_, ⟨cs, hk eb _ h1 (fun e => hne (Option.some.inj e)) (fun c' fz e => by simp at e), h2, h3, h4, h5⟩, h.bel.trans hB, h.gw, h.ge⟩
  have : (bs ++ [UInt8.ofNat c]).map bv = bs.map bv ++ [.int .u8 (c : Int)] := by
    simp only [List.map_append, List.map_cons, List.map_nil, bv, UInt8.toNat_ofNat']
    rw [Nat.mod_eq_of_lt (by omega)]
  rw [this]; exact hb

theorem EncSt.stored {w W : World} {gb eb : Nat} {bs : List UInt8} {Bv q : Nat} (h : EncSt w W gb eb bs Bv q) (Bv' q' : Nat) (v1 v2 : Int) (h1 : v1 = (Bv' : Int)) (h2 : v2 = (q' : Int)) : EncSt w ((W.setCell ⟨eb, 18, none⟩ (.int .u32 v1)).setCell ⟨eb, 19, none⟩ (.int .u32 v2)) gb eb bs Bv' q' := by
  obtain ⟨cs, e1, e2, e3, e4, e5⟩ := h.enc
  subst h1 h2
  have l18 : 18 < cs.size := (Array.getElem?_eq_some_iff.1 e4).1
  have l19 : 19 < cs.size := (Array.getElem?_eq_some_iff.1 e5).1
  have f1 := Lib.heap_setCell_same (i := 18) e1 (.int .u32 (Bv' : Int))
  have f2 := Lib.heap_setCell_same (i := 19) f1 (.int .u32 (q' : Int))
  have hgl : gb ≤ eb := h.ge
  refine ⟨isBuffer_set (isBuffer_set h.buf e1 (p := ⟨eb, 18, none⟩) rfl _) f1 (p := ⟨eb, 19, none⟩) rfl _, ⟨_, f2, ?_, ?_, ?_, ?_⟩, (h.bel.setCell (p := ⟨eb, 18, none⟩) hgl _).setCell (p := ⟨eb, 19, none⟩) hgl _, h.gw, h.ge⟩
  all_goals simp [Array.getElem?_setIfInBounds, e2, e3, l18, l19]

set_option maxRecDepth 100000 in
set_option maxHeartbeats 4000000 in
theorem encByte (w W : World) (gb eb : Nat) (bs : List UInt8) (Bv q c : Nat) (h : EncSt w W gb eb bs Bv q) (hc : c < 256) (hl : bs.length + 1 ≤ 140737488355328) :
    Calls Tryd.prog 49 #[.pointer (some ⟨eb, 0, none⟩), .int .u8 (c : Int)] W (fun e W' => e = .returned (.tuple #[]) ∧ EncSt w W' gb eb (bs ++ [UInt8.ofNat c]) Bv q) := by
  obtain ⟨c0, c1, c18, c19, fz⟩ := h.cells
  have WB := Lib.hid (writeByte_laid gb gb (bs.map bv) (c : Int) W h.buf h.gsz (fun v hv => by obtain ⟨x, _, rfl⟩ := List.mem_map.1 hv; rfl) (by simpa using hl))
  have HS := Lib.hid h
  have f1 := fz 1
  clear h c18 c19 fz
  go_enter Tryd.func49, Tryd.ntmps49
  go_wp2_with fail
  refine WB.out.mono ?_
  rintro e W1 ⟨rfl, hb, hB, hk⟩
  have H1 := Lib.hid (HS.out.written c hc hb hB hk)
  obtain ⟨d0, d1, d18, d19, g⟩ := H1.out.cells
  have g1 := g 1
  have SELF : Hid (∀ W', W' = W1.setCell ⟨eb, 1, none⟩ .nilIface → EncSt w W' gb eb (bs ++ [UInt8.ofNat c]) Bv q) := fun W' hW' => by
    rw [hW', setCell_self W1 _ _ d1]; exact H1.out
  clear hb hB hk d0 d18 d19 g WB
  go_wp2_with fail
  go_end0
  exact ⟨rfl, SELF.out _ rfl⟩

/-- The encoder has written codes: N bits, which write T. -/
structure EncW (w W : World) (gb eb : Nat) (N T : Nat) : Prop where
  st : ∃ xs q V, WSt xs q V N T ∧ q < 8 ∧ EncSt w W gb eb (wstuff xs) (V * 2 ^ (32 - q)) q

def EmitRel (w : World) (gb eb Bv q0 N T : Nat) (gk : Nat) (v1 v2 : Value) (wr : World) : Prop :=
  ∃ (xs : List Nat) (q V Bw : Nat), v1 = .int .u32 (Bw : Int) ∧ v2 = .int .u32 (q : Int) ∧ Bw = V * 2 ^ (32 - q) ∧ WSt xs q V N T ∧ q ≤ 23 ∧ q ≤ gk ∧ EncSt w wr gb eb (wstuff xs) Bv q0

set_option maxRecDepth 100000 in
set_option maxHeartbeats 4000000 in
theorem emit_any (w W : World) (gb eb N T c n : Nat) (h : EncW w W gb eb N T) (hc : c < 2 ^ n) (hn1 : 1 ≤ n) (hn : n ≤ 16) (hN : N ≤ 68719476736) :
    Calls Tryd.prog 34 #[.pointer (some ⟨eb, 0, none⟩), .int .u32 (c : Int), .int .u32 (n : Int)] W (fun e W' => e = .returned (.tuple #[]) ∧ EncW w W' gb eb (N + n) (T * 2 ^ n + c)) := by
  obtain ⟨xs, q, V, hS, hq8, hE⟩ := h.st
  obtain ⟨c0, c1, c18, c19, fz⟩ := hE.cells
  have hV := hS.hV
  obtain ⟨P0, hP0, hP0b⟩ : ∃ P0, V * 2 ^ (32 - q) = P0 ∧ P0 < 4294967296 := ⟨_, rfl, w_lt V q hV (by omega)⟩
  rw [hP0] at c18
  obtain ⟨p, hp⟩ : ∃ p : Nat, (2 : Int) ^ (32 - (q + n)) = (p : Int) ∧ 2 ^ (32 - (q + n)) = p := ⟨2 ^ (32 - (q + n)), by push_cast; rfl, rfl⟩
  have hcp : c * p < 4294967296 := by
    have h1 : c * 2 ^ (32 - (q + n)) < 2 ^ n * 2 ^ (32 - (q + n)) := Nat.mul_lt_mul_of_pos_right hc (Nat.two_pow_pos _)
    rw [← Nat.pow_add, hp.2] at h1
    have h2 : (2 : Nat) ^ (n + (32 - (q + n))) ≤ 2 ^ 32 := Nat.pow_le_pow_right (by decide) (by omega)
    omega
  have hpow : (2 : Int) ^ (32 - (n + q)) = (p : Int) := by rw [Nat.add_comm]; exact hp.1
  have e1 : (c : Int) * (p : Int) % 4294967296 = ((c * p : Nat) : Int) := by
    have : (c : Int) * (p : Int) = ((c * p : Nat) : Int) := by push_cast; rfl
    omega
  have hVn := (hS.add hc).hV
  obtain ⟨B0, hB0, hB0b⟩ : ∃ B0, (V * 2 ^ n + c) * 2 ^ (32 - (q + n)) = B0 ∧ B0 < 4294967296 := ⟨_, rfl, w_lt _ _ hVn (by omega)⟩
  have hor : bits .or .u32 ((c : Int) * (p : Int)) (P0 : Int) = (B0 : Int) := by
    have := w_or V q c n hV hc (by omega)
    rw [hP0, hB0, hp.2] at this
    rw [← this]
    push_cast
    rfl
  have START : Hid (∀ v2 : Int, v2 = (n : Int) + (q : Int) → EmitRel w gb eb P0 q (N + n) (T * 2 ^ n + c) (q + n) (.int .u32 (B0 : Int)) (.int .u32 v2) W) := fun v2 hv2 =>
    ⟨xs, q + n, V * 2 ^ n + c, B0, rfl, by rw [hv2, show (n : Int) + (q : Int) = ((q + n : Nat) : Int) by omega], hB0.symm, hS.add hc, by omega, Nat.le_refl _, by rw [← hP0]; exact hE⟩
  have hqi : (q : Int) < 8 := by omega
  have hni : (n : Int) ≤ 16 := by omega
  have hci : (c : Int) < 4294967296 := by
    have : (2 : Nat) ^ n ≤ 2 ^ 16 := Nat.pow_le_pow_right (by decide) hn
    omega
  clear hS hE hVn hB0 hP0 hp hcp h c0 c1 hc hV
  go_enter Tryd.func34, Tryd.ntmps34
  go_wp2_with fail
  go_loopg [1, 2] (q + n) (fun gk v1 v2 wr => EmitRel w gb eb P0 q (N + n) (T * 2 ^ n + c) gk v1 v2 wr)
  case atStart => exact START.out _ rfl
  case round =>
    clear START c18 c19 fz hpow e1 hor
    obtain ⟨xs1, q1, V1, Bw, rfl, rfl, hBw, hS1, hq23, hqg, hE1⟩ := hrel
    have hq23i : (q1 : Int) ≤ 23 := by omega
    have hNq := hS1.hN
    have hwl := wstuff_len xs1
    by_cases h8 : 8 ≤ q1
    · have d1 : decide ((8 : Int) ≤ (q1 : Int)) = true := by simp; omega
      have d2 : decide (8 ≤ q1) = true := by simp; omega
      have h8i : (8 : Int) ≤ (q1 : Int) := by omega
      obtain ⟨hS2, hx6⟩ := hS1.byte h8
      obtain ⟨x, hx⟩ : ∃ x, V1 / 2 ^ (q1 - 8) = x := ⟨_, rfl⟩
      have hby := w_byte V1 q1 h8 (by omega)
      rw [← hBw, hx] at hby
      have hbi : (Bw : Int) / 16777216 = (x : Int) := by omega
      rw [hx] at hS2 hx6
      obtain ⟨B2, hB2, hB2b⟩ : ∃ B2, V1 % 2 ^ (q1 - 8) * 2 ^ (32 - (q1 - 8)) = B2 ∧ B2 < 4294967296 := ⟨_, rfl, w_lt _ _ hS2.hV (by omega)⟩
      have hsh := w_shift V1 q1 h8 (by omega)
      rw [← hBw, hB2] at hsh
      have hshi : (Bw : Int) * 256 % 4294967296 = (B2 : Int) := by omega
      have hxi : (x : Int) < 256 := by omega
      have hB2i : (B2 : Int) < 4294967296 := by omega
      have CALL := Lib.hid (encByte w wr gb eb (wstuff xs1) P0 q x hE1 hx6 (by omega))
      have NX : Hid (∀ W2 (v1 : Int), EncSt w W2 gb eb (wstuff (xs1 ++ [x])) P0 q → v1 = (Bw : Int) * 256 % 4294967296 → EmitRel w gb eb P0 q (N + n) (T * 2 ^ n + c) (gk - 8) (.int .u32 v1) (.int .u32 ((q1 : Int) - 8)) W2) := fun W2 v1 h2 hv1 =>
        ⟨xs1 ++ [x], q1 - 8, V1 % 2 ^ (q1 - 8), B2, by rw [hv1, hshi], by rw [show (q1 : Int) - 8 = ((q1 - 8 : Nat) : Int) by omega], hB2.symm, hS2, by omega, by omega, h2⟩
      have hgk : 8 ≤ gk := by omega
      clear hS1 hE1 hS2 hB2 hsh hby hBw hx hshi
      go_wp2_with fail
      refine CALL.out.mono ?_
      clear CALL
      rintro e W2 ⟨rfl, hE2⟩
      by_cases hff : x = 255
      · have q5 : ((x : Int) == 255) = true := by rw [hff]; rfl
        have CALL := Lib.hid (encByte w W2 gb eb (wstuff xs1 ++ [UInt8.ofNat x]) P0 q 0 hE2 (by decide) (by simp; omega))
        have NX2 : Hid (∀ W3, EncSt w W3 gb eb (wstuff xs1 ++ [UInt8.ofNat x] ++ [UInt8.ofNat 0]) P0 q → EncSt w W3 gb eb (wstuff (xs1 ++ [x])) P0 q) := fun W3 h3 => by
          rw [wstuff_snoc, if_pos hff]
          have : wstuff xs1 ++ [UInt8.ofNat x] ++ [UInt8.ofNat 0] = wstuff xs1 ++ [255, 0] := by rw [hff, List.append_assoc]; rfl
          rw [← this]; exact h3
        clear hE2
        go_wp2_with fail
        refine CALL.out.mono ?_
        clear CALL
        rintro e W3 ⟨rfl, hE3⟩
        have FIN : Hid (∀ v1 : Int, v1 = (Bw : Int) * 256 % 4294967296 → EmitRel w gb eb P0 q (N + n) (T * 2 ^ n + c) (gk - 8) (.int .u32 v1) (.int .u32 ((q1 : Int) - 8)) W3) := fun v1 hv1 => NX.out W3 v1 (NX2.out W3 hE3) hv1
        clear hE3 NX NX2
        go_wp2_with fail
        go_roundg (gk - 8)
        case measure => omega
        case rel => exact FIN.out _ rfl
      · have q5 : ((x : Int) == 255) = false := by simp; omega
        have FIN : Hid (∀ v1 : Int, v1 = (Bw : Int) * 256 % 4294967296 → EmitRel w gb eb P0 q (N + n) (T * 2 ^ n + c) (gk - 8) (.int .u32 v1) (.int .u32 ((q1 : Int) - 8)) W2) := by
          intro v1 hv1
          refine NX.out W2 v1 ?_ hv1
          rw [wstuff_snoc, if_neg hff]
          exact hE2
        clear hE2 NX
        go_wp2_with fail
        go_roundg (gk - 8)
        case measure => omega
        case rel => exact FIN.out _ rfl
    · have d1 : decide ((8 : Int) ≤ (q1 : Int)) = false := by simp; omega
      have d2 : decide (8 ≤ q1) = false := by simp; omega
      have FIN : Hid (∀ v1 v2 : Int, v1 = (Bw : Int) → v2 = (q1 : Int) → EncW w ((wr.setCell ⟨eb, 18, none⟩ (.int .u32 v1)).setCell ⟨eb, 19, none⟩ (.int .u32 v2)) gb eb (N + n) (T * 2 ^ n + c)) := fun v1 v2 e1 e2 =>
        ⟨xs1, q1, V1, hS1, by omega, hE1.stored _ _ v1 v2 (by rw [e1, hBw]) e2⟩
      obtain ⟨c0, c1, c18, c19, fz⟩ := hE1.cells
      have f18 := fz 18
      have f19 := fz 19
      clear hS1 hE1 hBw fz
      go_wp2_with fail
      go_end0
      exact ⟨rfl, FIN.out _ _ rfl rfl⟩
end Go.Proofs.YtkkplbfbhmlnoaaDoor
