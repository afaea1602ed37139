/- A slice of numbers of 32 bits that came in, as a walk wants it. No conditions beyond those written at each lemma. -/
import Derived.Test.YtkkplbfbhmlnoaaDoorWa
import Derived.Test.YtkkplbfbhmlnoaaDoorSc
namespace Go.Proofs.YtkkplbfbhmlnoaaDoor
open Go.ChangeShapes Go.WideShapes Go.ChangeAt Go.RowKit

theorem cells36 : Tryd.prog.cellsOf 36 = 1 := by kernel_rfl
theorem bytesOf36 : Tryd.checked.prog.bytesOf 36 = 4 := by kernel_rfl
theorem readable32 : Tryd.prog.readableRec 32 = true := by kernel_rfl

set_option maxRecDepth 100000 in
theorem open_nats {H : Type} {enc : TypeId × Value → H} {W : World} {base : Nat} {v : Value} {d : DataW H} {p : List MemPlace} (hv : Value.okWide Tryd.prog W .any base (32 : Nat) v) (h : DataW.Trod enc Tryd.prog W 0 (fun _ => true) true (32 : Nat) v d p)
    (hs : ∀ elems spare, d = .slice elems spare → elems.length + spare.length ≤ reachBytes) :
    ∃ (b : Option Addr) (cap : Nat) (ns : List Nat), v = .slice b ns.length cap ∧ ns.length ≤ cap ∧ cap ≤ 9223372036854775807 ∧ Row W (fun k => k < W.heap.size) .u32 b ns ∧ ∀ n ∈ ns, n < 4294967296 := by
  obtain ⟨a0, len, cap, rfl⟩ := okWide_slice Tryd.underlying32 (by assumption)
  obtain ⟨fuel, hf⟩ := h
  rcases open_ints Tryd.underlying32 Tryd.underlying36 cells36 hf with ⟨hcs, _⟩ | ⟨a, len', cap', zs, hcs, _, hl, _, hz, hx, hcell, hwz⟩
  · cases hcs
    exact ⟨none, 0, [], rfl, Nat.le_refl _, by decide, .inl rfl, fun z hz => by cases hz⟩
  · cases hcs
    rw [if_pos rfl] at hz
    have hd : d = .slice (lits .u32 (zs.take len)) (lits .u32 (zs.drop len)) := congrArg Prod.fst hx
    have hm := hs _ _ hd
    have hr := reachBytes_lt
    simp [lits] at hm
    have hll : ((zs.take len).map Int.toNat).length = len := by simp; omega
    have key : ∀ z ∈ zs, 0 ≤ z ∧ z < 4294967296 := fun z hz' => by
      have hw := hwz z hz'
      have m0 : IntKind.u32.min = 0 := by decide
      have m1 : IntKind.u32.max = 4294967295 := by decide
      simp [Lit.wf] at hw
      omega
    refine ⟨some a, cap, (zs.take len).map Int.toNat, by rw [hll], by rw [hll]; exact hl, by omega, ?_, fun n hn => ?_⟩
    · by_cases h0 : len = 0
      · exact .inl (List.eq_nil_of_length_eq_zero (by rw [hll]; exact h0))
      have c0 := hcell 0 (by omega)
      obtain ⟨g, o, sp⟩ := a
      have hsp : sp = none := by
        cases sp with
        | none => rfl
        | some s =>
          unfold World.cell? at c0
          simp [Addr.add] at c0
          split at c0 <;> simp at c0
      subst hsp
      have hlt : g < W.heap.size := World.block_lt_of_cell? _ _ (by simpa [addr_add] using c0)
      refine .inr ⟨g, o, rfl, hlt, hlt, fun j hj => ?_⟩
      rw [hll] at hj
      have hjz : j < zs.length := by omega
      have ck := hcell j hjz
      rw [addr_add, List.getD_eq_getElem?_getD, List.getElem?_eq_getElem hjz] at ck
      rw [ck]
      have hk := key zs[j] (List.getElem_mem hjz)
      simp only [List.getElem_map, List.getElem_take, Option.getD_some]
      rw [Int.toNat_of_nonneg hk.1]
    · obtain ⟨z, hz', rfl⟩ := List.mem_map.1 hn
      have := key z (List.mem_of_mem_take hz')
      omega
end Go.Proofs.YtkkplbfbhmlnoaaDoor
