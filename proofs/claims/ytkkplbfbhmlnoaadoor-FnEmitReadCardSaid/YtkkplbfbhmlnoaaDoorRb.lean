/- The decoder's buffer: fill, readByte, readFull, in terms of the bytes that are still to be read. Conditions: those of the predicate Src. -/
import Derived.Test.YtkkplbfbhmlnoaaDoorRa
import Derived.Deep.RegionWith
import Derived.Handy
import Derived.LaidEql
namespace Go.Proofs.YtkkplbfbhmlnoaaDoor
open Go.RowKit

theorem cutW {P : Program} {c : Code} {Q : Exit → Act → World → Prop} {a : Act} {w : World} (R : World → Prop) (h : R w) (k : ∀ W, R W → c.wp P Q a W) : c.wp P Q a w := k w h

/-- What a reader's block holds. -/
def rdF (sv : Value) (p : Int) (q : Value) : Nat → Value := fun k => if k = 0 then sv else if k = 1 then .int .i64 p else q

/-- The three variables that are laid. -/
structure Glob (w : World) (a1 a2 : Addr) : Prop where
  g0 : w.cell? ⟨0, 0, none⟩ = some (.iface 161 (.agg #[.pointer (some ⟨4, 55, none⟩)]))
  g1 : w.cell? ⟨1, 0, none⟩ = some (.iface 178 (.pointer (some a1)))
  g2 : w.cell? ⟨2, 0, none⟩ = some (.iface 178 (.pointer (some a2)))
theorem Glob.chg {w w' : World} {a1 a2 : Addr} (h : Glob w a1 a2) {S : Nat → Prop} (hc : Chg S w w') (hS : ∀ k, k < 3 → ¬ S k) : Glob w' a1 a2 :=
  ⟨hc.some h.g0 (hS 0 (by decide)), hc.some h.g1 (hS 1 (by decide)), hc.some h.g2 (hS 2 (by decide))⟩
theorem Glob.lt {w : World} {a1 a2 : Addr} (h : Glob w a1 a2) : 2 < w.heap.size := World.block_lt_of_cell? _ _ h.g2

/-- The decoder in block b reads from the reader in block r, which hands out data; bytes i to j of the buffer bs are still to be read, then data from p on. -/
structure Src0 (w : World) (b r : Nat) (a1 a2 : Addr) (f : Nat → Value) (base : Option Addr) (cap : Nat) (data : List UInt8) (i j p : Nat) (bs : Nat → UInt8) : Prop where
  glob : Glob w a1 a2
  blk : Blk w b 9020 f
  b3 : 3 ≤ b
  r3 : 3 ≤ r
  ne : r ≠ b
  rd : f 0 = .iface 74 (.pointer (some ⟨r, 0, none⟩))
  hi : f 4100 = .int .i64 (i : Int)
  hj : f 4101 = .int .i64 (j : Int)
  ij : i ≤ j
  j4 : j ≤ 4096
  buf : ∀ k, k < 4096 → f (4 + k) = .int .u8 ((bs k).toNat : Int)
  rb : ∃ q, Blk w r 3 (rdF (.slice base data.length cap) p q)
  hp : p ≤ data.length
  hcap : data.length ≤ cap
  hmax : cap ≤ 9223372036854775807
  dat : Bytes w (fun k => k ≠ b ∧ k ≠ r) base data

def bufd (bs : Nat → UInt8) (i j : Nat) : List UInt8 := (List.range (j - i)).map fun k => bs (i + k)

theorem fill_method (a : Addr) (w : World) : (Go.method 321 74 (.pointer (some a)) "Read").run Tryd.prog w = .ok (74, .pointer (some a)) w := by kernel_rfl

theorem comp178 : (Tryd.prog.info? 178).map (·.comparable) = some true := by kernel_rfl
theorem size210 : (Tryd.prog.info? 210).map (·.size) = some 1 := by kernel_rfl
theorem eql178 (a : Addr) (w : World) : (binOp .eql 55 (.iface 178 (.pointer (some a))) (.iface 178 (.pointer (some a)))).run Tryd.prog w = .ok (.bool true) w := by
  obtain ⟨i, hi, hcmp⟩ := Option.map_eq_some_iff.1 comp178
  obtain ⟨j, hj, hjs⟩ := Option.map_eq_some_iff.1 size210
  exact run_eql_iface_ptr_same (P := Tryd.prog) w a Tryd.underlying55 Tryd.underlying178 hi hcmp hj

/-! ### What fill does to the state -/
abbrev BR (b r : Nat) : Nat → Prop := fun k => k = b ∨ k = r

/-- The bytes that Read hands out. -/
def given (data : List UInt8) (p n : Nat) : List Value := ((data.drop p).take n).map fun x => .int .u8 (x.toNat : Int)
theorem given_length (data : List UInt8) (p n : Nat) (h : p + n ≤ data.length) : (given data p n).length = n := by simp [given]; omega
theorem given_get (data : List UInt8) (p n k : Nat) (h : p + n ≤ data.length) (hk : k < n) : (given data p n)[k]? = some (.int .u8 ((data[p + k]'(by omega)).toNat : Int)) := by
  unfold given
  rw [List.getElem?_map, List.getElem?_take_of_lt hk, List.getElem?_drop, List.getElem?_eq_getElem (by omega)]
  rfl

def bsPut (bs : Nat → UInt8) (data : List UInt8) (j p n : Nat) : Nat → UInt8 := fun k => if j ≤ k ∧ k < j + n then data.getD (p + (k - j)) 0 else bs k

theorem bufd_put (bs : Nat → UInt8) (data : List UInt8) (j p n : Nat) (h : p + n ≤ data.length) : bufd (bsPut bs data j p n) j (j + n) ++ data.drop (p + n) = data.drop p := by
  have h1 : bufd (bsPut bs data j p n) j (j + n) = (data.drop p).take n := by
    apply List.ext_getElem
    · simp [bufd]; omega
    · intro k h1 h2
      have hk : k < n := by simp [bufd] at h1; exact h1
      simp only [bufd, bsPut, List.getElem_map, List.getElem_range, List.getElem_take, List.getElem_drop]
      rw [if_pos (by omega)]
      have e : j + k - j = k := by omega
      rw [e, List.getD_eq_getElem?_getD, List.getElem?_eq_getElem (by omega)]
      rfl
  rw [h1, ← List.drop_drop, List.take_append_drop]

theorem src_filled {w w' : World} {b r : Nat} {a1 a2 : Addr} {f : Nat → Value} {base : Option Addr} {cap : Nat} {data : List UInt8} {j p : Nat} {bs : Nat → UInt8} (h : Src0 w b r a1 a2 f base cap data j j p bs)
    (n : Nat) (hn : p + n ≤ data.length) (hj : j + n ≤ 4096) (q : Value)
    (B : Blk w' b 9020 (upd (updRow f (4 + j) (given data p n)) 4101 (.int .i64 ((j : Int) + (n : Int))))) (R : Blk w' r 3 (rdF (.slice base data.length cap) ((p + n : Nat) : Int) q)) (C : Chg (BR b r) w w') :
    Src0 w' b r a1 a2 (upd (updRow f (4 + j) (given data p n)) 4101 (.int .i64 ((j : Int) + (n : Int)))) base cap data j (j + n) (p + n) (bsPut bs data j p n) where
  glob := h.glob.chg C (fun k hk e => by have := h.b3; have := h.r3; rcases e with e | e <;> omega)
  blk := B
  b3 := h.b3
  r3 := h.r3
  ne := h.ne
  rd := by rw [upd_ne _ _ _ _ (by decide), updRow_out _ _ _ _ (by omega), h.rd]
  hi := by rw [upd_ne _ _ _ _ (by decide), updRow_out _ _ _ _ (by rw [given_length _ _ _ hn]; omega), h.hi]
  hj := by rw [upd_same]; simp
  ij := by omega
  j4 := hj
  buf := fun k hk => by
    rw [upd_ne _ _ _ _ (by omega)]
    by_cases e : j ≤ k ∧ k < j + n
    · obtain ⟨m, rfl⟩ : ∃ m, k = j + m := ⟨k - j, by omega⟩
      have hm : m < n := by omega
      have e2 := given_get data p n m hn hm
      rw [show 4 + (j + m) = 4 + j + m by omega, updRow_in _ _ _ _ (by rw [given_length _ _ _ hn]; exact hm)]
      rw [List.getElem?_eq_getElem (by rw [given_length _ _ _ hn]; exact hm)] at e2
      rw [Option.some.inj e2]
      unfold bsPut
      rw [if_pos (by omega), show j + m - j = m by omega, List.getD_eq_getElem?_getD, List.getElem?_eq_getElem (by omega)]
      rfl
    · rw [updRow_out _ _ _ _ (by rw [given_length _ _ _ hn]; omega), h.buf k hk]
      unfold bsPut
      rw [if_neg e]
  rb := ⟨q, R⟩
  hp := hn
  hcap := h.hcap
  hmax := h.hmax
  dat := (h.dat.chg C (fun k hk e => by rcases e with e | e; exact hk.1 e; exact hk.2 e))

def bsMove (bs : Nat → UInt8) (j : Nat) : Nat → UInt8 := fun k => if k = 0 then bs (j - 2) else if k = 1 then bs (j - 1) else bs k
def fMove (f : Nat → Value) (bs : Nat → UInt8) (j : Nat) : Nat → Value :=
  upd (upd (upd (upd f 4 (.int .u8 ((bs (j - 2)).toNat : Int))) 5 (.int .u8 ((bs (j - 1)).toNat : Int))) 4100 (.int .i64 2)) 4101 (.int .i64 2)
theorem src_moved {w w' : World} {b r : Nat} {a1 a2 : Addr} {f : Nat → Value} {base : Option Addr} {cap : Nat} {data : List UInt8} {j p : Nat} {bs : Nat → UInt8} (h : Src0 w b r a1 a2 f base cap data j j p bs)
    (B : Blk w' b 9020 (fMove f bs j)) (C : Chg (BR b r) w w') (hr : ∀ q, Blk w r 3 (rdF (.slice base data.length cap) p q) → Blk w' r 3 (rdF (.slice base data.length cap) p q)) :
    Src0 w' b r a1 a2 (fMove f bs j) base cap data 2 2 p (bsMove bs j) where
  glob := h.glob.chg C (fun k hk e => by have := h.b3; have := h.r3; rcases e with e | e <;> omega)
  blk := B
  b3 := h.b3
  r3 := h.r3
  ne := h.ne
  rd := by unfold fMove; rw [upd_ne _ _ _ _ (by decide), upd_ne _ _ _ _ (by decide), upd_ne _ _ _ _ (by decide), upd_ne _ _ _ _ (by decide), h.rd]
  hi := by unfold fMove; rw [upd_ne _ _ _ _ (by decide), upd_same]; rfl
  hj := by unfold fMove; rw [upd_same]; rfl
  ij := by omega
  j4 := by omega
  buf := fun k hk => by
    unfold fMove bsMove
    rw [upd_ne _ _ _ _ (by omega), upd_ne _ _ _ _ (by omega)]
    by_cases e0 : k = 0
    · subst e0; rw [upd_ne _ _ _ _ (by decide), upd_same]; rfl
    · by_cases e1 : k = 1
      · subst e1; rw [upd_same]; rfl
      · rw [upd_ne _ _ _ _ (by omega), upd_ne _ _ _ _ (by omega), h.buf k hk, if_neg e0, if_neg e1]
  rb := by obtain ⟨q, hq⟩ := h.rb; exact ⟨q, hr q hq⟩
  hp := h.hp
  hcap := h.hcap
  hmax := h.hmax
  dat := (h.dat.chg C (fun k hk e => by rcases e with e | e; exact hk.1 e; exact hk.2 e))
theorem fMove_out (f : Nat → Value) (bs : Nat → UInt8) (j k : Nat) (h : k < 4 ∨ 4102 ≤ k) : fMove f bs j k = f k := by
  unfold fMove; rw [upd_ne _ _ _ _ (by omega), upd_ne _ _ _ _ (by omega), upd_ne _ _ _ _ (by omega), upd_ne _ _ _ _ (by omega)]
end Go.Proofs.YtkkplbfbhmlnoaaDoor
