/- What memory is said to hold in these proofs: a block's cells as a function of their places, and which blocks a call may change. Conditions: none beyond those written at each lemma. -/
import Derived.WalkKit
import Derived.Lib.Hide
import Derived.Deep.Draws
import Derived.Laws.IdiomCopy
namespace Go.Proofs.YtkkplbfbhmlnoaaDoor
open Go.RowKit

/-- A function changed at one place. -/
def upd (f : Nat → Value) (k : Nat) (v : Value) : Nat → Value := fun j => if j = k then v else f j
theorem upd_same (f : Nat → Value) (k : Nat) (v : Value) : upd f k v k = v := by simp [upd]
theorem upd_ne (f : Nat → Value) (k j : Nat) (v : Value) (h : j ≠ k) : upd f k v j = f j := by simp [upd, h]

/-- A function changed on a stretch. -/
def updRow (f : Nat → Value) (o : Nat) (vs : List Value) : Nat → Value := fun j => if o ≤ j ∧ j < o + vs.length then vs.getD (j - o) undef else f j
theorem updRow_in (f : Nat → Value) (o : Nat) (vs : List Value) (j : Nat) (h : j < vs.length) : updRow f o vs (o + j) = vs[j] := by
  unfold updRow
  rw [if_pos (by omega)]
  simp [h]
theorem updRow_out (f : Nat → Value) (o : Nat) (vs : List Value) (j : Nat) (h : j < o ∨ o + vs.length ≤ j) : updRow f o vs j = f j := by
  unfold updRow
  rw [if_neg (by omega)]

/-- All blocks that were there, but those in S, are as they were; no block has gone. -/
structure Chg (S : Nat → Prop) (w w' : World) : Prop where
  os : w'.os = w.os
  tape : w'.tape = w.tape
  output : w'.output = w.output
  size : w.heap.size ≤ w'.heap.size
  block : ∀ k, k < w.heap.size → ¬ S k → w'.heap[k]? = w.heap[k]?

theorem Chg.refl (S : Nat → Prop) (w : World) : Chg S w w := ⟨rfl, rfl, rfl, Nat.le_refl _, fun _ _ _ => rfl⟩
theorem Chg.trans {S : Nat → Prop} {a b c : World} (h : Chg S a b) (k : Chg S b c) : Chg S a c :=
  ⟨k.os.trans h.os, k.tape.trans h.tape, k.output.trans h.output, Nat.le_trans h.size k.size,
    fun i hi hS => (k.block i (Nat.lt_of_lt_of_le hi h.size) hS).trans (h.block i hi hS)⟩
theorem Chg.mono {S T : Nat → Prop} {a b : World} (h : Chg S a b) (hST : ∀ k, k < a.heap.size → S k → T k) : Chg T a b :=
  ⟨h.os, h.tape, h.output, h.size, fun k hk hn => h.block k hk fun hs => hn (hST k hk hs)⟩
/-- What changes blocks that are new to the first world. -/
theorem Chg.transNew {S T : Nat → Prop} {a b c : World} (h : Chg S a b) (k : Chg T b c) (hT : ∀ i, i < a.heap.size → T i → S i) : Chg S a c :=
  ⟨k.os.trans h.os, k.tape.trans h.tape, k.output.trans h.output, Nat.le_trans h.size k.size,
    fun i hi hS => (k.block i (Nat.lt_of_lt_of_le hi h.size) (fun ht => hS (hT i hi ht))).trans (h.block i hi hS)⟩
theorem Chg.drewN {S : Nat → Prop} {a b : World} (h : Chg S a b) (n : Nat) : Chg S a (b.drewN n) := ⟨h.os, h.tape, h.output, h.size, h.block⟩
theorem Chg.drew {S : Nat → Prop} {a b : World} (h : Chg S a b) : Chg S a b.drew := ⟨h.os, h.tape, h.output, h.size, h.block⟩
theorem Chg.setCell {S : Nat → Prop} {a b : World} (h : Chg S a b) {p : Addr} (hp : p.block < a.heap.size → S p.block) (v : Value) : Chg S a (b.setCell p v) :=
  ⟨h.os, h.tape, h.output, by rw [World.size_setCell]; exact h.size, fun k hk hS => by
    rw [heap_setCell_other _ _ _ _ (fun e => hS (by rw [e]; exact hp (by rw [← e]; exact hk)))]
    exact h.block k hk hS⟩
theorem Chg.alloc {S : Nat → Prop} {a b : World} (h : Chg S a b) (o : Obj) : Chg S a (b.alloc o) :=
  ⟨h.os, h.tape, h.output, by rw [World.size_alloc]; exact Nat.le_succ_of_le h.size, fun k hk hS => by
    rw [Below.heap_alloc _ _ _ (Nat.lt_of_lt_of_le hk h.size)]
    exact h.block k hk hS⟩
theorem Chg.setCells {S : Nat → Prop} {a : World} (g : Nat) (hg : g < a.heap.size → S g) : ∀ (vs : List Value) (o : Nat) (b : World), Chg S a b → Chg S a (b.setCells g o vs)
  | [], _, _, h => h
  | v :: r, o, b, h => Chg.setCells g hg r (o + 1) _ (h.setCell (p := ⟨g, o, none⟩) hg v)
theorem Chg.cell {S : Nat → Prop} {w w' : World} (h : Chg S w w') {p : Addr} (hp : p.block < w.heap.size) (hS : ¬ S p.block) : w'.cell? p = w.cell? p :=
  World.cell?_of_block (w := w) (h.block p.block hp hS)
theorem Chg.frozen {S : Nat → Prop} {w w' : World} (h : Chg S w w') {p : Addr} (hp : p.block < w.heap.size) (hS : ¬ S p.block) : w'.frozen? p = w.frozen? p :=
  World.frozen?_of_block (w := w) (h.block p.block hp hS)
theorem Chg.below {S : Nat → Prop} {w w' : World} (h : Chg S w w') {B : Nat} (hB : B ≤ w.heap.size) (hS : ∀ k, k < B → ¬ S k) : Below B w w' :=
  ⟨h.os, h.tape, h.output, h.size, fun k hk => h.block k (Nat.lt_of_lt_of_le hk hB) (hS k hk)⟩
theorem Chg.ofBelow {w w' : World} (h : Below w.heap.size w w') (S : Nat → Prop) : Chg S w w' :=
  ⟨h.os, h.tape, h.output, h.size, fun k hk _ => h.block k hk⟩
theorem Chg.some {S : Nat → Prop} {w w' : World} (h : Chg S w w') {p : Addr} {v : Value} (hv : w.cell? p = some v) (hS : ¬ S p.block) : w'.cell? p = some v := by
  rw [h.cell (World.block_lt_of_cell? _ _ hv) hS]; exact hv

/-- Block b holds n cells that may be written; what they hold. -/
structure Blk (w : World) (b n : Nat) (f : Nat → Value) : Prop where
  cell : ∀ k, k < n → w.cell? ⟨b, k, none⟩ = some (f k)
  free : ∀ k, w.frozen? ⟨b, k, none⟩ = false
  lt : b < w.heap.size

section
variable {w : World} {b n : Nat} {f : Nat → Value}
theorem Blk.at (h : Blk w b n f) (k : Nat) (hk : k < n) {v : Value} (hv : f k = v) : w.cell? ⟨b, k, none⟩ = some v := by rw [h.cell k hk, hv]
theorem Blk.drewN (h : Blk w b n f) (m : Nat) : Blk (w.drewN m) b n f := ⟨h.cell, h.free, h.lt⟩
theorem Blk.drew (h : Blk w b n f) : Blk w.drew b n f := ⟨h.cell, h.free, h.lt⟩
theorem Blk.setCell (h : Blk w b n f) {k : Nat} (hk : k < n) (v : Value) : Blk (w.setCell ⟨b, k, none⟩ v) b n (upd f k v) := by
  refine ⟨fun j hj => ?_, fun j => by rw [World.frozen?_setCell]; exact h.free j, by rw [World.size_setCell]; exact h.lt⟩
  by_cases e : j = k
  · subst e; rw [upd_same]; exact World.cell?_setCell_same _ _ _ (h.cell j hj)
  · rw [upd_ne _ _ _ _ e, World.cell?_setCell_other _ _ _ _ (fun x => e (congrArg Addr.off x).symm)]; exact h.cell j hj
theorem Blk.setOther (h : Blk w b n f) {p : Addr} (hp : p.block ≠ b) (v : Value) : Blk (w.setCell p v) b n f :=
  ⟨fun j hj => by rw [World.cell?_setCell_other _ _ _ _ (fun x => hp (by rw [x]))]; exact h.cell j hj,
    fun j => by rw [World.frozen?_setCell]; exact h.free j, by rw [World.size_setCell]; exact h.lt⟩
theorem Blk.alloc (h : Blk w b n f) (o : Obj) : Blk (w.alloc o) b n f :=
  ⟨fun j hj => by rw [World.cell?_alloc_lt _ _ ⟨b, j, none⟩ h.lt]; exact h.cell j hj,
    fun j => by rw [World.frozen?_alloc_old _ _ ⟨b, j, none⟩ (Nat.ne_of_lt h.lt)]; exact h.free j, by rw [World.size_alloc]; exact Nat.lt_succ_of_lt h.lt⟩
theorem Blk.setCells (h : Blk w b n f) (o : Nat) (vs : List Value) (ho : o + vs.length ≤ n) : Blk (w.setCells b o vs) b n (updRow f o vs) := by
  refine ⟨fun j hj => ?_, fun j => by rw [World.frozen?_setCells]; exact h.free j, ?_⟩
  · by_cases e : o ≤ j ∧ j < o + vs.length
    · obtain ⟨i, rfl⟩ : ∃ i, j = o + i := ⟨j - o, by omega⟩
      rw [updRow_in _ _ _ _ (by omega)]
      exact World.cell?_setCells_in b vs o w (fun i hi => by rw [h.cell _ (by omega)]; rfl) i (by omega)
    · rw [updRow_out _ _ _ _ (by omega), World.cell?_setCells_out b vs o w ⟨b, j, none⟩ (fun _ _ => (show j < o ∨ o + vs.length ≤ j by omega))]
      exact h.cell j hj
  · have := (Chg.setCells (S := fun _ => True) b (fun _ => trivial) vs o w (Chg.refl _ w)).size
    exact Nat.lt_of_lt_of_le h.lt this
theorem Blk.chg (h : Blk w b n f) {S : Nat → Prop} {w' : World} (hc : Chg S w w') (hS : ¬ S b) : Blk w' b n f :=
  ⟨fun j hj => by rw [hc.cell (p := ⟨b, j, none⟩) h.lt hS]; exact h.cell j hj, fun j => by rw [hc.frozen (p := ⟨b, j, none⟩) h.lt hS]; exact h.free j, Nat.lt_of_lt_of_le h.lt hc.size⟩
theorem Blk.setOthers (h : Blk w b n f) {g : Nat} (hg : g ≠ b) (o : Nat) (vs : List Value) : Blk (w.setCells g o vs) b n f :=
  h.chg (Chg.setCells (S := fun k => k = g) g (fun _ => rfl) vs o w (Chg.refl _ w)) (fun e => hg e.symm)
theorem Blk.ofNew (w : World) (cs : Array Value) (t : TypeId) (n : Nat) (f : Nat → Value) (hf : ∀ k, k < n → cs[k]? = some (f k)) : Blk (w.alloc (.cells cs t)) w.heap.size n f :=
  ⟨fun k hk => by rw [World.cell?_alloc_new]; exact hf k hk, fun k => World.frozen?_alloc_new _ _ _ _, by simp⟩
theorem Blk.congr (h : Blk w b n f) {g : Nat → Value} (hg : ∀ k, k < n → f k = g k) : Blk w b n g :=
  ⟨fun k hk => by rw [h.cell k hk, hg k hk], h.free, h.lt⟩
end

/-- A slice of bytes that holds l; its cells lie in a block that is in 'ok' (an empty one may lie nowhere). -/
def Bytes (w : World) (ok : Nat → Prop) (base : Option Addr) (l : List UInt8) : Prop :=
  l = [] ∨ ∃ g o, base = some ⟨g, o, none⟩ ∧ ok g ∧ g < w.heap.size ∧ ∀ k (h : k < l.length), w.cell? ⟨g, o + k, none⟩ = some (.int .u8 (l[k].toNat : Int))
theorem Bytes.chg {w w' : World} {ok : Nat → Prop} {base : Option Addr} {l : List UInt8} (h : Bytes w ok base l) {S : Nat → Prop} (hc : Chg S w w') (hS : ∀ k, ok k → ¬ S k) : Bytes w' ok base l := by
  rcases h with h | ⟨g, o, hb, hg, hlt, hcell⟩
  · exact .inl h
  · exact .inr ⟨g, o, hb, hg, Nat.lt_of_lt_of_le hlt hc.size, fun k hk => by rw [hc.cell (p := ⟨g, o + k, none⟩) hlt (hS g hg)]; exact hcell k hk⟩
theorem Bytes.mono {w : World} {ok ok' : Nat → Prop} {base : Option Addr} {l : List UInt8} (h : Bytes w ok base l) (hk : ∀ k, ok k → ok' k) : Bytes w ok' base l := by
  rcases h with h | ⟨g, o, hb, hg, r⟩
  · exact .inl h
  · exact .inr ⟨g, o, hb, hk g hg, r⟩
end Go.Proofs.YtkkplbfbhmlnoaaDoor
