/- laws.FnEmitRead returns true whatever its arguments, and its arguments read as they did: the tied card. Condition: the row's own (the three listed variables are laid as the program's text lays them). -/
import Derived.Test.YtkkplbfbhmlnoaaDoorWd
import Derived.Test.YtkkplbfbhmlnoaaDoorPf
namespace Go.Proofs.YtkkplbfbhmlnoaaDoor
open Go.ChangeShapes Go.WideShapes Go.ChangeAt Go.RowKit

set_option maxRecDepth 100000 in
theorem fnEmitRead_contract (H : Type) (enc : TypeId × Value → H) (W : World) (base : Nat) (args : Array Value) (ds gs : List (DataW H)) (before : List MemPlace)
    (hval0 : ∀ (j : Nat) t v, Tryd.f4.params[j]? = some t → args[j]? = some v → Value.okWide Tryd.prog W .any base t v)
    (hW : DataW.Whole enc Tryd.prog Tryd.f4.params.toList Rows.fnEmitReadSpec.vars false W args.toList ds gs before)
    (hsz : (DataW.weightsEach Tryd.prog (Tryd.f4.params.toList ++ (OpenSpec.ofChange Rows.fnEmitReadSpec).bare.plain.varTypes Tryd.prog) (ds ++ gs)).all (· ≤ reachBytes) = true)
    (hL : laidMetH Tryd.prog Rows.fnEmitReadRow.laid W) :
    Calls Tryd.prog 4 args W fun e W' => ∃ v, e = .returned v ∧ Rows.fnEmitReadSpec.post enc Tryd.prog Tryd.f4 false true false false W args v W' := by
  have hW' := hW
  obtain ⟨p, q, hA0, hV, rfl, hfz, hnd⟩ := hW
  have hA : DataW.TrodAll enc Tryd.prog W 0 (fun _ => true) true Tryd.f4.params.toList args.toList ds p := hA0
  have hval := hval0
  rw [Tryd.params4] at hA hval hsz
  obtain ⟨v0, vs0, d0, ds0, p0, q0, hargs, rfl, rfl, h0, r0⟩ := trodAll_cons hA
  obtain ⟨v1, vs1, d1, ds1, p1, q1, rfl, rfl, rfl, h1, r1⟩ := trodAll_cons r0
  obtain ⟨rfl, rfl, rfl⟩ := trodAll_nil r1
  obtain rfl : args = #[v0, v1] := by cases args; simp_all
  obtain ⟨rfl, rfl⟩ := trodVars_none hV
  have hs0 : ∀ elems spare, d0 = .slice elems spare → elems.length + spare.length ≤ reachBytes := fun elems spare e => by
    have := sized_slice (j := 0) hsz rfl (by rw [e]; rfl) Tryd.underlying32
    rw [show Tryd.prog.bytesOf 36 = 4 from bytesOf36] at this
    omega
  have hs1 : ∀ elems spare, d1 = .slice elems spare → elems.length + spare.length ≤ reachBytes := fun elems spare e => by
    have := sized_slice (j := 1) hsz rfl (by rw [e]; rfl) Tryd.underlying32
    rw [show Tryd.prog.bytesOf 36 = 4 from bytesOf36] at this
    omega
  obtain ⟨b0, c0, l0, rfl, hc0, hm0, hb0, hw0⟩ := open_nats (hval 0 32 v0 rfl rfl) h0 hs0
  obtain ⟨b1, c1, l1, rfl, hc1, hm1, hb1, hw1⟩ := open_nats (hval 1 32 v1 rfl rfl) h1 hs1
  obtain ⟨a1, a2, hG⟩ := glob_of_laid hL
  refine (lawEmit_any a1 a2 b0 b1 c0 c1 l0 l1 W hG hc0 hm0 hc1 hm1 hb0 hb1 hw0 hw1).mono fun e W' ⟨he, hC⟩ => ?_
  subst he
  have hBl : Below W.heap.size W W' := hC.below (Nat.le_refl _) (fun _ _ h => h)
  have hlt : ∀ x ∈ p0 ++ (p1 ++ []), x.block < W.heap.size := fun x hx => hW'.lt x (by simpa using hx)
  have e0 : ∀ x ∈ p0, x.block < W.heap.size := fun x hx => hlt x (by simp [hx])
  have e1 : ∀ x ∈ p1, x.block < W.heap.size := fun x hx => hlt x (by simp [hx])
  have s0 : (32 : Nat) < Tryd.prog.types.size := of_decide_eq_true (by kernel_rfl)
  have s1 : (32 : Nat) < Tryd.prog.types.size := of_decide_eq_true (by kernel_rfl)
  exact ⟨_, rfl, _, _, _, [], p0 ++ (p1 ++ []), [], hW', trodAll_mk1 (shut_bool Tryd.underlying4 true),
    trodAll_cons_mk (Below.trod laidOut readable32 s0 h0 hBl e0) (trodAll_cons_mk (Below.trod laidOut readable32 s1 h1 hBl e1) trodAll_mk0), rfl, hBl.frame _, fun h => by cases h⟩

theorem fnEmitRead_reads (os : Os) {H : Type} (enc : TypeId × Value → H) : ∃ places, DataW.whole enc Tryd.prog ((laidWorld os).forCall (fun _ _ => 0) ⟨#[], #[.slice none 0 0, .slice none 0 0], []⟩).memory Tryd.f4.params.toList Rows.fnEmitReadSpec.vars false #[Value.slice none 0 0, .slice none 0 0].toList 8 = some ([.nil, .nil], [], places) :=
  ⟨[], by kernel_rfl⟩

set_option maxRecDepth 100000 in
theorem fnEmitRead_lifted (os : Os) (started : os.Started) (H : Type) (enc : TypeId × Value → H) (F : Stop.Interp) :
    ReturnsInHanded {} Tryd.checked os 4 .any ((OpenSpec.ofChange Rows.fnEmitReadSpec).preRow enc Tryd.prog Tryd.f4 Rows.fnEmitReadRow.domain false Rows.fnEmitReadRow.laid) (((OpenSpec.ofChange Rows.fnEmitReadSpec).at F).post enc Tryd.prog Tryd.f4 false true false false) := by
  obtain ⟨places, hx⟩ := fnEmitRead_reads os enc
  refine returnsInHanded_of_row (C := Tryd.checked) (s := OpenSpec.ofChange Rows.fnEmitReadSpec) own started (by kernel_rfl) Tryd.func4
    (witness_row_atRef (enc := enc) (C := Tryd.checked) false (laidWorld os) #[.slice none 0 0, .slice none 0 0] rfl (by kernel_rfl) (by kernel_rfl) (by kernel_rfl)
      (OpenSpec.preRow_of_cond 8 hx (by kernel_rfl) (fun k hk => by cases hk) (by kernel_rfl) (laidWorld_met os _))) ?_
  intro W base args ds gs before hval hW _ _ hsz hL _ _
  exact fnEmitRead_contract H enc W base args ds gs before hval hW hsz hL

theorem fnEmitRead_said : Rows.FnEmitReadSaid :=
  OpenClaim.holds_of_cond 4 Tryd.f4 rfl rfl rfl rfl rfl rfl rfl ⟨rfl, rfl, rfl, rfl, rfl⟩ rfl rfl rfl rfl rfl (by kernel_rfl) Tryd.func4 (by kernel_rfl)
    (of_decide_eq_true (by kernel_rfl)) (by unfold Func.isWrapper; first | (rw [if_pos (by decide +kernel)]; kernel_rfl) | (rw [if_neg (by decide +kernel)]; exact ⟨rfl, rfl⟩))
    (fun os started H enc _ F => by rw [OpenClaim.pre_eq_preRow]; exact fnEmitRead_lifted os started H enc F)

theorem fnEmitRead_plain (f : FuncId) (fn : Func) (hf : Tryd.pinned.checked.prog.funcNamed "jpegcodec/laws.FnEmitRead" = some f) (hfn : Tryd.pinned.checked.prog.funcs[f]? = some fn) :
    true = Tryd.pinned.checked.prog.looks [] ∧ ∀ (j : Nat) t, fn.params[j]? = some t → Tryd.pinned.checked.prog.wantsStandIn t = false := by
  obtain rfl : f = 4 := Option.some.inj ((show Tryd.prog.funcNamed "jpegcodec/laws.FnEmitRead" = some 4 by kernel_rfl).symm.trans hf) |>.symm
  obtain rfl : fn = Tryd.f4 := (Option.some.inj (Tryd.func4.symm.trans hfn)).symm
  refine ⟨by kernel_rfl, fun j t ht => ?_⟩
  rw [Tryd.params4] at ht
  have hm := Array.mem_of_getElem? ht
  simp at hm
  obtain rfl : t = 32 := hm
  exact (show Tryd.prog.wantsStandIn 32 = false by kernel_rfl)

/-- THE CARD. -/
theorem fnEmitRead_card : Rows.FnEmitReadCardSaid :=
  Claim7.holds_tied_plain_at .later [] _ _ _ _ fnEmitRead_said (fun _ h => by cases h) (by kernel_rfl) (fun _ h => by cases h) fnEmitRead_row_tie rfl ⟨rfl, rfl⟩ (by kernel_rfl) rfl fnEmitRead_plain (by kernel_rfl)
#print axioms fnEmitRead_card
end Go.Proofs.YtkkplbfbhmlnoaaDoor
