/- What holds while (*decoder).processDHT runs: the decoder, the local array, what has changed. Conditions: those written at each lemma. -/
import Derived.Test.YtkkplbfbhmlnoaaDoorHa
import Derived.Test.YtkkplbfbhmlnoaaDoorZb
import Derived.Test.YtkkplbfbhmlnoaaDoorHc
namespace Go.Proofs.YtkkplbfbhmlnoaaDoor
open Go.RowKit

/-- The segment of reads(). -/
def T18 : List UInt8 := [0, 1, 0, 0, 0, 0, 0, 0, 0, 0, 0, 0, 0, 0, 0, 0, 0, 7]
/-- What is needed of the table that it lays. -/
def Tbl (F : Nat → Value) : Prop := F 4148 = .int .i32 1 ∧ F 4212 = .int .u16 1794 ∧ F 4405 = .int .u8 7 ∧ F 4661 = .int .i32 0 ∧ F 4677 = .int .i32 0 ∧ F 4693 = .int .i32 0

structure HSt (w : World) (b r : Nat) (a1 a2 : Addr) (base : Option Addr) (cap : Nat) (data : List UInt8) (f F : Nat → Value) (l : List UInt8) (wr : World) : Prop where
  src : Src wr b r a1 a2 F base cap data l
  hu : F 4102 = .int .i64 0
  hbl : F 4114 = .bool false
  lo : ∀ k, k < 4 → F k = f k
  chg : Chg (BR b r) w wr

def DHRel (cc : Prop) (w : World) (b r : Nat) (a1 a2 : Addr) (base : Option Addr) (cap : Nat) (data : List UInt8) (f : Nat → Value) (R : Bool) (gk : Nat) (v : Value) (wr : World) : Prop :=
  ∃ l F, v = .int .i64 (l.length : Int) ∧ l.length ≤ 4611686018427392000 ∧ l.length < gk ∧ hRun gk l = R ∧ HSt w b r a1 a2 base cap data f F l wr ∧ (cc → l = T18 ∨ (l = [] ∧ Tbl F))

def DHPost (cc : Prop) (w : World) (b r : Nat) (a1 a2 : Addr) (base : Option Addr) (cap : Nat) (data : List UInt8) (f : Nat → Value) (R : Bool) (e : Ending) (w' : World) : Prop :=
  Chg (BR b r) w w' ∧ ((R = true ∧ e = .returned .nilIface ∧ ∃ F, HSt w b r a1 a2 base cap data f F [] w' ∧ (cc → Tbl F)) ∨ (R = false ∧ ∃ s, e = .returned (.iface 103 (.string s))))

theorem Bytes.lt {w : World} {ok : Nat → Prop} {base : Option Addr} {l : List UInt8} (h : Bytes w ok base l) : Bytes w (fun k => ok k ∧ k < w.heap.size) base l := by
  rcases h with h | ⟨g, o, h1, h2, h3, h4⟩
  · exact .inl h
  · exact .inr ⟨g, o, h1, ⟨h2, h3⟩, h3, h4⟩
theorem Src.dat {w : World} {b r : Nat} {a1 a2 : Addr} {f : Nat → Value} {base : Option Addr} {cap : Nat} {data rest : List UInt8} (h : Src w b r a1 a2 f base cap data rest) : Bytes w (fun k => k ≠ b ∧ k ≠ r) base data := by
  obtain ⟨i, j, p, bs, S, hr⟩ := h; exact S.dat
theorem Src.glob {w : World} {b r : Nat} {a1 a2 : Addr} {f : Nat → Value} {base : Option Addr} {cap : Nat} {data rest : List UInt8} (h : Src w b r a1 a2 f base cap data rest) : Glob w a1 a2 := by
  obtain ⟨i, j, p, bs, S, hr⟩ := h; exact S.glob
theorem Src.rlt {w : World} {b r : Nat} {a1 a2 : Addr} {f : Nat → Value} {base : Option Addr} {cap : Nat} {data rest : List UInt8} (h : Src w b r a1 a2 f base cap data rest) : r < w.heap.size := by
  obtain ⟨i, j, p, bs, S, hr⟩ := h; obtain ⟨q, hq⟩ := S.rb; exact hq.lt

theorem Src.drew' {w : World} {b r : Nat} {a1 a2 : Addr} {f : Nat → Value} {base : Option Addr} {cap : Nat} {data rest : List UInt8} (h : Src w b r a1 a2 f base cap data rest) : Src w.drew b r a1 a2 f base cap data rest := h.drewN 1

/-- While a table is laid: the decoder, the local array in block m9, what has changed. -/
structure HW (w : World) (b r : Nat) (a1 a2 : Addr) (base : Option Addr) (cap : Nat) (data : List UInt8) (F : Nat → Value) (rest : List UInt8) (m9 : Nat) (nc : Nat → Value) (W : World) : Prop where
  src : Src W b r a1 a2 F base cap data rest
  nb : Blk W m9 16 nc
  chg : Chg (BR b r) w W
  m9b : m9 ≠ b
  m9r : m9 ≠ r
  m9w : w.heap.size ≤ m9
  w3 : 2 < w.heap.size
  dat : Bytes W (fun k => (k ≠ b ∧ k ≠ r) ∧ k < w.heap.size) base data
section
variable {w W : World} {b r m9 : Nat} {a1 a2 : Addr} {base : Option Addr} {cap : Nat} {data rest : List UInt8} {F nc : Nat → Value}
theorem HW.drewN (h : HW w b r a1 a2 base cap data F rest m9 nc W) (n : Nat) : HW w b r a1 a2 base cap data F rest m9 nc (W.drewN n) :=
  ⟨h.src.drewN n, h.nb.drewN n, h.chg.drewN n, h.m9b, h.m9r, h.m9w, h.w3, h.dat.drewN n⟩
theorem HW.drew (h : HW w b r a1 a2 base cap data F rest m9 nc W) : HW w b r a1 a2 base cap data F rest m9 nc W.drew := h.drewN 1
theorem HW.setB (h : HW w b r a1 a2 base cap data F rest m9 nc W) {k : Nat} (hk : 4102 ≤ k) (hk2 : k < 9020) (v : Value) : HW w b r a1 a2 base cap data (upd F k v) rest m9 nc (W.setCell ⟨b, k, none⟩ v) :=
  ⟨h.src.set (.inr hk) hk2 v, h.nb.setOther (p := ⟨b, k, none⟩) (fun e => h.m9b e.symm) v, h.chg.setCell (p := ⟨b, k, none⟩) (fun _ => .inl rfl) v, h.m9b, h.m9r, h.m9w, h.w3,
    h.dat.chg (Chg.setCell (S := fun j => j = b) (Chg.refl _ W) (p := ⟨b, k, none⟩) (fun _ => rfl) v) (fun j hj e => hj.1.1 e)⟩
theorem HW.setN (h : HW w b r a1 a2 base cap data F rest m9 nc W) {k : Nat} (hk : k < 16) (v : Value) : HW w b r a1 a2 base cap data F rest m9 (upd nc k v) (W.setCell ⟨m9, k, none⟩ v) := by
  have hC : Chg (fun j => j = m9) W (W.setCell ⟨m9, k, none⟩ v) := Chg.setCell (S := fun j => j = m9) (Chg.refl _ W) (p := ⟨m9, k, none⟩) (fun _ => rfl) v
  have hD := h.dat.chg hC (fun j hj e => by have := h.m9w; omega)
  exact ⟨h.src.keep hC (fun e => h.m9b e.symm) (fun e => h.m9r e.symm) (h.src.glob.chg hC (fun j hj e => by have := h.m9w; have := h.w3; omega)) (hD.mono (fun j hj => hj.1)), h.nb.setCell hk v, h.chg.setCell (p := ⟨m9, k, none⟩) (fun hlt => absurd hlt (Nat.not_lt.2 h.m9w)) v, h.m9b, h.m9r, h.m9w, h.w3, hD⟩
theorem Src.sets : ∀ (vs : List Value) (o : Nat) (w : World) (f : Nat → Value) {b r : Nat} {a1 a2 : Addr} {base : Option Addr} {cap : Nat} {data rest : List UInt8}, 4102 ≤ o → o + vs.length ≤ 9020 → Src w b r a1 a2 f base cap data rest → ∃ F, (∀ k, k < o ∨ o + vs.length ≤ k → F k = f k) ∧ Src (w.setCells b o vs) b r a1 a2 F base cap data rest
  | [], o, w, f, _, _, _, _, _, _, _, _, _, _, h => ⟨f, fun _ _ => rfl, h⟩
  | v :: vs, o, w, f, b, _, _, _, _, _, _, _, h1, h2, h => by
    simp only [List.length_cons] at h2
    obtain ⟨F, hF, hS⟩ := Src.sets vs (o + 1) (w.setCell ⟨b, o, none⟩ v) (upd f o v) (by omega) (by omega) (h.set (.inr h1) (by omega) v)
    refine ⟨F, fun k hk => ?_, hS⟩
    simp only [List.length_cons] at hk
    rw [hF k (by omega), upd_ne _ _ _ _ (by omega)]
theorem HW.setBs (h : HW w b r a1 a2 base cap data F rest m9 nc W) {o : Nat} (ho : 4102 ≤ o) (vs : List Value) (hv : o + vs.length ≤ 9020) : ∃ F', (∀ k, k < o ∨ o + vs.length ≤ k → F' k = F k) ∧ HW w b r a1 a2 base cap data F' rest m9 nc (W.setCells b o vs) := by
  obtain ⟨F', hF, hS⟩ := Src.sets vs o W F ho hv h.src
  have hC : Chg (BR b r) W (W.setCells b o vs) := Chg.setCells b (fun _ => .inl rfl) vs o W (Chg.refl _ W)
  exact ⟨F', hF, hS, h.nb.chg hC (fun e => by rcases e with e | e; exact h.m9b e; exact h.m9r e), h.chg.trans hC, h.m9b, h.m9r, h.m9w, h.w3, h.dat.chg hC (fun k hk e => by rcases e with e | e; exact hk.1.1 e; exact hk.1.2 e)⟩
theorem HW.full (h : HW w b r a1 a2 base cap data F rest m9 nc W) {W' : World} {F' : Nat → Value} {rest' : List UInt8} (hS : Src W' b r a1 a2 F' base cap data rest') (hC : Chg (BR b r) W W') : HW w b r a1 a2 base cap data F' rest' m9 nc W' :=
  ⟨hS, h.nb.chg hC (fun e => by rcases e with e | e; exact h.m9b e; exact h.m9r e), h.chg.trans hC, h.m9b, h.m9r, h.m9w, h.w3, h.dat.chg hC (fun k hk e => by rcases e with e | e; exact hk.1.1 e; exact hk.1.2 e)⟩
end

def nZero : Nat → Value := fun _ => .int .i32 0
section
variable {w : World} {ops : Array Oper} {rest : List Oper} {o : Oper} {a : Act} {Q : Exit → Act → World → Prop}
theorem run_alloc92 (w : World) : (Instr.alloc 92 true (.tuple #[])).run Tryd.prog w = .ok (.pointer (some ⟨w.heap.size, 0, none⟩)) (w.alloc (.cells (arr 16 nZero) 92)) := by kernel_rfl
theorem wpList_alloc92 (hgd : o.guard = none) (ho : o.op = .alloc 92) (h : wpList Tryd.prog ops Q rest (a.put o.dst (.pointer (some ⟨w.heap.size, 0, none⟩))) (w.alloc (.cells (arr 16 nZero) 92))) : wpList Tryd.prog ops Q (o :: rest) a w := by
  refine wpList_value hgd (v := .pointer (some ⟨w.heap.size, 0, none⟩)) (w' := w.alloc (.cells (arr 16 nZero) 92)) ?_ h
  unfold execOp
  simp only [ho]
  simp [Sem.run_bind, run_alloc92 w]
end

theorem und92 : Tryd.prog.underlying 92 = some (.array 16 21) := by kernel_rfl
theorem agg21 (w : World) : (isAgg 21).run Tryd.prog w = .ok false w := by kernel_rfl
theorem size21 (w : World) : (sizeOf 21).run Tryd.prog w = .ok 1 w := by kernel_rfl
theorem arrT92 : ArrT Tryd.prog 92 16 := ⟨fun w => by kernel_rfl, fun w => by kernel_rfl⟩
theorem run_index92 (f : Nat → Value) (j : Nat) (hj : j < 16) (w : World) : (Instr.index 92 (.agg (arr 16 f)) (.int .i64 (j : Int))).run Tryd.prog w = .ok (f j) w := by
  have h1 : (0 : Int) ≤ (j : Int) ∧ (j : Int) < ((16 : Nat) : Int) := by omega
  have h2 : (arr 16 f)[j]? = some (f j) := arr_get _ _ _ hj
  simp [Instr.index, run_underlying und92, asIntOf, part, Sem.run_bind, agg21, size21, h1, h2]
  omega
section
variable {w : World} {ops : Array Oper} {rest : List Oper} {o : Oper} {a : Act} {Q : Exit → Act → World → Prop}
theorem wpList_index92 (hgd : o.guard = none) (x y : Operand) (ho : o.op = .index 92 x y) (f : Nat → Value) (j : Nat) (hx : a.eval x = .agg (arr 16 f)) (hy : a.eval y = .int .i64 (j : Int)) (hj : j < 16) {v : Value} (hv : f j = v)
    (h : wpList Tryd.prog ops Q rest (a.put o.dst v) w) : wpList Tryd.prog ops Q (o :: rest) a w := by
  refine wpList_value hgd (v := v) (w' := w) ?_ h
  unfold execOp
  simp only [ho, hx, hy]
  simp [Sem.run_bind, run_index92 f j hj w, hv]
end
theorem T18_cnt0 : cnt T18 0 = 1 := by decide
theorem T18_cnt (i : Nat) (h : 1 ≤ i) : cnt T18 i = 0 ∨ 17 ≤ i + 1 := by
  by_cases h2 : i + 1 < 17
  · refine .inl ?_
    have : ∀ i, i + 1 < 17 → 1 ≤ i → cnt T18 i = 0 := by
      intro i h1 h2
      obtain ⟨j, rfl⟩ : ∃ j, i = j + 1 := ⟨i - 1, by omega⟩
      have : j < 15 := by omega
      clear h1 h2
      match j, this with
      | 0, _ | 1, _ | 2, _ | 3, _ | 4, _ | 5, _ | 6, _ | 7, _ | 8, _ | 9, _ | 10, _ | 11, _ | 12, _ | 13, _ | 14, _ => decide
      | k + 15, h => omega
    exact this i h2 h
  · exact .inr (by omega)
theorem T18_sum : csum (cnt T18) 16 = 1 := by decide
theorem T18_sum0 : csum (cnt T18) 0 = 0 := rfl
theorem T18_val : ((T18.drop 17).getD 0 0).toNat = 7 := by decide
theorem lut_val : bits .or .u16 (((7 : Nat) : Int) * 256) (2 + ((0 : Nat) : Int)) = 1794 := by decide
theorem or_u8 (x y : Nat) (hx : x < 256) (hy : y < 256) : ∃ q : Nat, bits .or .u8 (x : Int) (y : Int) = (q : Int) ∧ q < 256 ∧ (x = 0 → q = y) := by
  have h := (bits_nat .u8 8 (by decide) (fun n h0 h1 => by rw [IntKind.wrap_u8]; omega) x y (by omega) (by omega)).2
  refine ⟨x ||| y, h, Nat.or_lt_two_pow (n := 8) (by omega) (by omega), fun h0 => by rw [h0]; simp⟩
theorem csum_part (c : Nat → Nat) : ∀ (n i : Nat), i < n → csum c i + c i ≤ csum c n
  | 0, i, h => absurd h (by omega)
  | n + 1, i, h => by
    simp only [csum]
    by_cases e : i = n
    · subst e; exact Nat.le_refl _
    · have := csum_part c n i (by omega)
      omega
end Go.Proofs.YtkkplbfbhmlnoaaDoor
