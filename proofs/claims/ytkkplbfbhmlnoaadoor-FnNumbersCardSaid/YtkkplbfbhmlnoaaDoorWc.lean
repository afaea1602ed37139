/- A slice of integers that came in, as a walk wants it. No conditions beyond those written at each lemma. -/
import Derived.Test.YtkkplbfbhmlnoaaDoorWa
import Derived.Test.YtkkplbfbhmlnoaaDoorLb
namespace Go.Proofs.YtkkplbfbhmlnoaaDoor
open Go.ChangeShapes Go.WideShapes Go.ChangeAt Go.RowKit

theorem cells21 : Tryd.prog.cellsOf 21 = 1 := by kernel_rfl
theorem cells36 : Tryd.prog.cellsOf 36 = 1 := by kernel_rfl
theorem bytesOf5 : Tryd.checked.prog.bytesOf 5 = 1 := by kernel_rfl
theorem bytesOf21 : Tryd.checked.prog.bytesOf 21 = 4 := by kernel_rfl
theorem bytesOf36 : Tryd.checked.prog.bytesOf 36 = 4 := by kernel_rfl
theorem readable22 : Tryd.prog.readableRec 22 = true := by kernel_rfl
theorem readable32 : Tryd.prog.readableRec 32 = true := by kernel_rfl
theorem readable35 : Tryd.prog.readableRec 35 = true := by kernel_rfl

set_option maxRecDepth 100000 in
theorem open_words {H : Type} {enc : TypeId × Value → H} {W : World} {base : Nat} {t e : TypeId} {k : IntKind} {v : Value} {d : DataW H} {p : List MemPlace} (hu : Tryd.prog.underlying t = some (.slice e)) (hue : Tryd.prog.underlying e = some (.int k)) (hce : Tryd.prog.cellsOf e = 1)
    (hv : Value.okWide Tryd.prog W .any base t v) (h : DataW.Trod enc Tryd.prog W 0 (fun _ => true) true t v d p)
    (hs : ∀ elems spare, d = .slice elems spare → elems.length + spare.length ≤ reachBytes) :
    ∃ (b : Option Addr) (cap : Nat) (zs : List Int), v = .slice b zs.length cap ∧ zs.length ≤ cap ∧ cap ≤ 4611686018427387904 ∧ RowI W (fun k => k < W.heap.size) k b zs ∧ ∀ z ∈ zs, (Lit.int k z).wf = true := by
  obtain ⟨a0, len, cap, rfl⟩ := okWide_slice hu (by assumption)
  obtain ⟨fuel, hf⟩ := h
  rcases open_ints hu hue hce hf with ⟨hcs, _⟩ | ⟨a, len', cap', zs, hcs, _, hl, _, hz, hx, hcell, hwz⟩
  · cases hcs
    exact ⟨none, 0, [], rfl, Nat.le_refl _, by decide, .inl rfl, fun z hz => by cases hz⟩
  · cases hcs
    rw [if_pos rfl] at hz
    have hd : d = .slice (lits k (zs.take len)) (lits k (zs.drop len)) := congrArg Prod.fst hx
    have hm := hs _ _ hd
    have hr := reachBytes_lt
    simp [lits] at hm
    have hll : (zs.take len).length = len := by simp; omega
    refine ⟨some a, cap, zs.take len, by rw [hll], by rw [hll]; exact hl, by omega, ?_, fun z hz' => hwz z (List.mem_of_mem_take hz')⟩
    by_cases h0 : len = 0
    · exact .inl (List.eq_nil_of_length_eq_zero (by rw [hll]; exact h0))
    have c0 := hcell 0 (by omega)
    obtain ⟨g, o, sp⟩ := a
    have hsp : sp = none := by
      cases sp with
      | none => rfl
      | some s =>
        unfold World.cell? at c0
        simp [Addr.add] at c0
        split at c0 <;> simp at c0
    subst hsp
    have hlt : g < W.heap.size := World.block_lt_of_cell? _ _ (by simpa [addr_add] using c0)
    refine .inr ⟨g, o, rfl, hlt, hlt, fun j hj => ?_⟩
    rw [hll] at hj
    have hjz : j < zs.length := by omega
    have ck := hcell j hjz
    rw [addr_add, List.getD_eq_getElem?_getD, List.getElem?_eq_getElem hjz] at ck
    rw [ck, List.getElem_take]
    rfl
end Go.Proofs.YtkkplbfbhmlnoaaDoor
