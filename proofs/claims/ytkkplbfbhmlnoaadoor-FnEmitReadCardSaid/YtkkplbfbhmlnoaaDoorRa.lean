/- The reader of package bytes: NewReader, and Read into a block's cells. Conditions: those written at each lemma. -/
import Derived.Test.YtkkplbfbhmlnoaaDoorProg
import Derived.Test.YtkkplbfbhmlnoaaDoorBa
import Derived.StillTailTactics
import Derived.Deep.QuietTactic
import Derived.BigQuiet
import Derived.WalkLawsBesides
import Derived.WalkSpells
import Derived.Laws.CopyOwn
namespace Go.Proofs.YtkkplbfbhmlnoaaDoor
open Go.RowKit

theorem wpList_copy_cells {P : Program} {w : World} {ops : Array Oper} {rest : List Oper} {o : Oper} {a : Act} {Q : Exit → Act → World → Prop} (hgd : o.guard = none) (d s : Operand) (dT sT : TypeId)
    (ho : o.op = .call { callee := .builtin .copy, args := #[d, s], argTypes := #[dT, sT] }) (elem : TypeId) (hu : P.underlying dT = some (.slice elem)) (hsz : (P.info? elem).map (·.size) = some 1)
    (g off : Nat) (dp : Option Addr) (dLen dCap : Nat) (sp : Option Addr) (sLen sCap : Nat) (hd : a.eval d = .slice dp dLen dCap) (hs : a.eval s = .slice sp sLen sCap)
    (cs : List Value) (hn : cs.length = Nat.min sLen dLen)
    (hpos : 0 < cs.length → dp = some ⟨g, off, none⟩ ∧ ∃ ad, sp = some ad ∧ ∀ j v, cs[j]? = some v → w.cell? (ad.add j) = some v)
    (hc : ∀ j, j < cs.length → (w.cell? ⟨g, off + j, none⟩).isSome = true) (hf : ∀ j, j < cs.length → w.frozen? ⟨g, off + j, none⟩ = false) (h1 : ∀ v ∈ cs, v.oneCell' = true)
    (h : wpList P ops Q rest (a.put o.dst (.int .i64 (cs.length : Int))) (w.setCells g off cs)) : wpList P ops Q (o :: rest) a w := by
  by_cases h0 : cs.length = 0
  · obtain rfl : cs = [] := List.eq_nil_of_length_eq_zero h0
    exact wpList_copy_nothing hgd d s dT sT ho elem hu hsz dp sp dLen dCap sLen sCap hd hs (by simpa using hn.symm) h
  · obtain ⟨rfl, ad, rfl, hsrc⟩ := hpos (by omega)
    refine wpList_plain hgd fun K hK => ?_
    have hrun := run_copy_cells (P := P) w dT sT o.type elem g off dLen dCap ad sLen sCap cs hu hsz hn hsrc hc hf h1
    unfold Oper.wp
    simp [execOp, ho, resolve, invoke, builtin, hd, hs, hrun, Result.andThen]
    exact hK _ _ h

theorem wpStill_of_quiet {P : Program} {ops : Array Oper} {w : World} {Q : Act → Prop} : ∀ (l : List Oper) (a : Act), wpQuiet P ops (fun w' => w' = w) Q l a → wpStill P ops w Q l a
  | [], _, h => h
  | o :: rest, a, h => by
    unfold wpQuiet at h
    unfold wpStill
    split
    · rename_i hw
      rw [if_pos hw] at h
      obtain ⟨v, h1, h2⟩ := h
      have h3 := h1 w rfl
      unfold Oper.quietAt at h3
      unfold Oper.still
      generalize (execOp a.eval o).run P w = r at *
      cases r with
      | ok n w' =>
        cases n <;> simp only [Oper.quietUpon, Oper.stillUpon] at h3 ⊢
        case value u => exact ⟨h3.1, by rw [h3.2]; exact wpStill_of_quiet rest _ h2⟩
        case skip => exact ⟨h3.1, by rw [← h3.2]; exact wpStill_of_quiet rest _ h2⟩
        case enter f args => exact ⟨h3.1, v, h3.2, wpStill_of_quiet rest _ h2⟩
      | halt x w' => simp only [Oper.quietUpon] at h3
    · rename_i hw
      rw [if_neg hw] at h
      exact wpStill_of_quiet rest _ h

/-- A region that draws its order, whose first n operations only read and whose others come behind them, one behind the other. -/
theorem wp_region_tail {P : Program} {id : Nat} {Q : Exit → Act → World → Prop} {a : Act} {w : World} {l : List Oper} (n : Nat) (hm : P.follows .mixedOrders = true) (hB : Region.lexTailB .any l.toArray n = true)
    (h : wpQuiet P l.toArray (fun w' => w' = w.drew) (fun a' => wpList P l.toArray Q (l.drop n) a' w.drew) (l.take n) a) : (Code.region id l.toArray true).wp P Q a w :=
  wp_region_still_tail n hm hB (wpStill_of_quiet _ _ h)

theorem addr_add (g o j : Nat) : (⟨g, o, none⟩ : Addr).add j = ⟨g, o + j, none⟩ := by
  unfold Addr.add
  split <;> simp_all

theorem newReader (base : Option Addr) (len cap : Nat) (w : World) :
    Calls Tryd.prog 29 #[.slice base len cap] w fun e w' => e = .returned (.pointer (some ⟨w.heap.size, 0, none⟩)) ∧ w.alloc (.cells #[.slice base len cap, .int .i64 0, .int .i64 (-1)] 138) = w' := by
  go_enter Tryd.func29, Tryd.ntmps29
  go_wp2_with fail
  go_ret
  exact ⟨rfl, rfl⟩

/-- Read at the end of the data: io.EOF. -/
theorem read_end (r : Nat) (bv eof : Value) (base : Option Addr) (len cap : Nat) (w : World) (hlen : len ≤ 9223372036854775807)
    (hs : w.cell? ⟨r, 0, none⟩ = some (.slice base len cap)) (hi : w.cell? ⟨r, 1, none⟩ = some (.int .i64 len)) (he : w.cell? ⟨2, 0, none⟩ = some eof) :
    Calls Tryd.prog 74 #[.pointer (some ⟨r, 0, none⟩), bv] w fun e w' => e = .returned (.tuple #[.int .i64 0, eof]) ∧ ∃ n, w' = w.drewN n := by
  go_enter Tryd.func74, Tryd.ntmps74
  go_wp2_with fail
  go_quiet (fail)
  go_wp2_with fail
  go_quiet (fail)
  go_wp2_with fail
  go_ret2
  exact ⟨rfl, _, World.drewN_drewN _ _ _⟩

set_option maxRecDepth 100000 in
set_option maxHeartbeats 1000000 in
theorem read_some (r g off dLen dCap p : Nat) (prev : Value) (sb so len cap : Nat) (cs : List Value) (w : World) (hcap : len ≤ cap) (hlen : cap ≤ 9223372036854775807) (hp : p < len) (hrg : r ≠ g)
    (hs : w.cell? ⟨r, 0, none⟩ = some (.slice (some ⟨sb, so, none⟩) len cap)) (hi : w.cell? ⟨r, 1, none⟩ = some (.int .i64 p)) (hq : w.cell? ⟨r, 2, none⟩ = some prev)
    (hfr : ∀ k, w.frozen? ⟨r, k, none⟩ = false)
    (hn : cs.length = Nat.min (len - p) dLen) (hsrc : ∀ j v, cs[j]? = some v → w.cell? ⟨sb, so + (p + j), none⟩ = some v) (hbr : sb ≠ r)
    (hc : ∀ j, j < cs.length → (w.cell? ⟨g, off + j, none⟩).isSome = true) (hf : ∀ j, j < cs.length → w.frozen? ⟨g, off + j, none⟩ = false) (h1 : ∀ v ∈ cs, v.oneCell' = true) :
    Calls Tryd.prog 74 #[.pointer (some ⟨r, 0, none⟩), .slice (some ⟨g, off, none⟩) dLen dCap] w fun e w' => e = .returned (.tuple #[.int .i64 cs.length, .nilIface]) ∧
      ∃ n, w' = ((((w.drewN n).setCell ⟨r, 2, none⟩ (.int .i64 (-1))).setCells g off cs).setCell ⟨r, 1, none⟩ (.int .i64 ((p + cs.length : Nat) : Int))) := by
  have H1 := Lib.hid hn
  have H2 := Lib.hid hsrc
  have H3 := Lib.hid hc
  have H4 := Lib.hid hf
  have H5 := Lib.hid h1
  have H6 := Lib.hid hfr
  have f2 := hfr 2
  clear hn hsrc hc hf h1 hfr
  have hpl : ((p : Int) < (len : Int)) := by omega
  go_enter Tryd.func74, Tryd.ntmps74
  go_wp2_with fail
  go_quiet (fail)
  go_wp2_with fail
  refine wp_region_tail 10 (by kernel_rfl) (by kernel_rfl) ?_
  simp only [List.take_succ_cons, List.take_zero, List.drop_succ_cons, List.drop_zero]
  repeat (go_big_quiet_step (fail))
  refine wpQuiet_nil ?_
  refine wpList_copy_cells rfl (.tmp 20) (.tmp 29) 22 22 rfl 5 Tryd.underlying22 (by kernel_rfl) g off _ dLen dCap _ _ _ rfl rfl cs H1.out ?_ ?_ ?_ H5.out ?_
  · intro _
    refine ⟨rfl, _, rfl, fun j v hj => ?_⟩
    have := H2.out j v hj
    rw [addr_add, Nat.add_assoc, World.cell?_drew, World.cell?_setCell_other _ _ _ _ (fun e => hbr (congrArg Addr.block e).symm), World.cell?_drewN]
    exact this
  · intro j hj
    rw [World.cell?_drew, World.cell?_setCell_other _ _ _ _ (by simp [hrg])]
    exact H3.out j hj
  · intro j hj
    rw [World.frozen?_drew, World.frozen?_setCell]
    exact H4.out j hj
  have c1 : ((((w.drewN nq).setCell ⟨r, 2, none⟩ (.int .i64 (-1))).drew).setCells g off cs).cell? ⟨r, 1, none⟩ = some (.int .i64 p) := by
    rw [World.cell?_setCells_out _ _ _ _ _ (fun h => absurd h hrg), World.cell?_drew, World.cell?_setCell_other _ _ _ _ (by simp)]
    exact hi
  have f1 : ((((w.drewN nq).setCell ⟨r, 2, none⟩ (.int .i64 (-1))).drew).setCells g off cs).frozen? ⟨r, 1, none⟩ = false := by
    rw [World.frozen?_setCells, World.frozen?_drew, World.frozen?_setCell]
    exact H6.out 1
  have hle : cs.length ≤ len - p := by rw [H1.out]; exact Nat.min_le_left _ _
  generalize hW : ((((w.drewN nq).setCell ⟨r, 2, none⟩ (.int .i64 (-1))).drew).setCells g off cs) = W at *
  have HW := Lib.hid hW
  clear hW hs hi hq f2
  go_wp2_with fail
  go_ret2
  refine ⟨rfl, nq + 1, ?_⟩
  rw [← HW.out]
  have e : ((p + cs.length : Nat) : Int) = (p : Int) + (cs.length : Int) := by omega
  rw [e]
  rfl
end Go.Proofs.YtkkplbfbhmlnoaaDoor
