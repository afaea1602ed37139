/- laws.FnQuantization returns true whatever its argument, and its argument reads as it did: the tied card. Condition: the row's own (the three listed variables are laid as the program's text lays them). -/
import Derived.Test.YtkkplbfbhmlnoaaDoorWa
import Derived.Test.YtkkplbfbhmlnoaaDoorQf
namespace Go.Proofs.YtkkplbfbhmlnoaaDoor
open Go.ChangeShapes Go.WideShapes Go.ChangeAt Go.RowKit

theorem bytesOf5 : Tryd.checked.prog.bytesOf 5 = 1 := by kernel_rfl
theorem readable22 : Tryd.prog.readableRec 22 = true := by kernel_rfl

set_option maxRecDepth 100000 in
theorem fnQuantization_contract (H : Type) (enc : TypeId × Value → H) (W : World) (base : Nat) (args : Array Value) (ds gs : List (DataW H)) (before : List MemPlace)
    (hval0 : ∀ (j : Nat) t v, Tryd.f3.params[j]? = some t → args[j]? = some v → Value.okWide Tryd.prog W .any base t v)
    (hW : DataW.Whole enc Tryd.prog Tryd.f3.params.toList Rows.fnQuantizationSpec.vars false W args.toList ds gs before)
    (hsz : (DataW.weightsEach Tryd.prog (Tryd.f3.params.toList ++ (OpenSpec.ofChange Rows.fnQuantizationSpec).bare.plain.varTypes Tryd.prog) (ds ++ gs)).all (· ≤ reachBytes) = true)
    (hL : laidMetH Tryd.prog Rows.fnQuantizationRow.laid W) :
    Calls Tryd.prog 3 args W fun e W' => ∃ v, e = .returned v ∧ Rows.fnQuantizationSpec.post enc Tryd.prog Tryd.f3 false true false false W args v W' := by
  have hW' := hW
  obtain ⟨p, q, hA0, hV, rfl, hfz, hnd⟩ := hW
  have hA : DataW.TrodAll enc Tryd.prog W 0 (fun _ => true) true Tryd.f3.params.toList args.toList ds p := hA0
  have hval := hval0
  rw [Tryd.params3] at hA hval hsz
  obtain ⟨v0, vs0, d0, ds0, p0, q0, hargs, rfl, rfl, h0, r0⟩ := trodAll_cons hA
  obtain ⟨rfl, rfl, rfl⟩ := trodAll_nil r0
  obtain rfl : args = #[v0] := by cases args; simp_all
  obtain ⟨rfl, rfl⟩ := trodVars_none hV
  have hs0 : ∀ elems spare, d0 = .slice elems spare → elems.length + spare.length ≤ reachBytes := fun elems spare e => by
    have := sized_slice (j := 0) hsz rfl (by rw [e]; rfl) Tryd.underlying22
    rw [show Tryd.prog.bytesOf 5 = 1 from bytesOf5] at this
    omega
  obtain ⟨b, cap, l, rfl, hc, hm, hb⟩ := open_bytes (hval 0 22 v0 rfl rfl) h0 hs0
  obtain ⟨a1, a2, hG⟩ := glob_of_laid hL
  refine (lawQ_any a1 a2 b cap l W hG hc hm hb).mono fun e W' ⟨he, hC⟩ => ?_
  subst he
  have hBl : Below W.heap.size W W' := hC.below (Nat.le_refl _) (fun _ _ h => h)
  have hlt : ∀ x ∈ p0, x.block < W.heap.size := fun x hx => hW'.lt x (by simpa using hx)
  exact ⟨_, rfl, _, _, _, [], p0 ++ [], [], hW', trodAll_mk1 (shut_bool Tryd.underlying4 true), trodAll_cons_mk (Below.trod laidOut readable22 (of_decide_eq_true (by kernel_rfl)) h0 hBl hlt) trodAll_mk0, rfl, hBl.frame _, fun h => by cases h⟩

theorem fnQuantization_reads (os : Os) {H : Type} (enc : TypeId × Value → H) : ∃ places, DataW.whole enc Tryd.prog ((laidWorld os).forCall (fun _ _ => 0) ⟨#[], #[.slice none 0 0], []⟩).memory Tryd.f3.params.toList Rows.fnQuantizationSpec.vars false #[Value.slice none 0 0].toList 8 = some ([.nil], [], places) :=
  ⟨[], by kernel_rfl⟩

set_option maxRecDepth 100000 in
theorem fnQuantization_lifted (os : Os) (started : os.Started) (H : Type) (enc : TypeId × Value → H) (F : Stop.Interp) :
    ReturnsInHanded {} Tryd.checked os 3 .any ((OpenSpec.ofChange Rows.fnQuantizationSpec).preRow enc Tryd.prog Tryd.f3 Rows.fnQuantizationRow.domain false Rows.fnQuantizationRow.laid) (((OpenSpec.ofChange Rows.fnQuantizationSpec).at F).post enc Tryd.prog Tryd.f3 false true false false) := by
  obtain ⟨places, hx⟩ := fnQuantization_reads os enc
  refine returnsInHanded_of_row (C := Tryd.checked) (s := OpenSpec.ofChange Rows.fnQuantizationSpec) own started (by kernel_rfl) Tryd.func3
    (witness_row_atRef (enc := enc) (C := Tryd.checked) false (laidWorld os) #[.slice none 0 0] rfl (by kernel_rfl) (by kernel_rfl) (by kernel_rfl)
      (OpenSpec.preRow_of_cond 8 hx (by kernel_rfl) (fun k hk => by cases hk) (by kernel_rfl) (laidWorld_met os _))) ?_
  intro W base args ds gs before hval hW _ _ hsz hL _ _
  exact fnQuantization_contract H enc W base args ds gs before hval hW hsz hL

theorem fnQuantization_said : Rows.FnQuantizationSaid :=
  OpenClaim.holds_of_cond 3 Tryd.f3 rfl rfl rfl rfl rfl rfl rfl ⟨rfl, rfl, rfl, rfl, rfl⟩ rfl rfl rfl rfl rfl (by kernel_rfl) Tryd.func3 (by kernel_rfl)
    (of_decide_eq_true (by kernel_rfl)) (by unfold Func.isWrapper; first | (rw [if_pos (by decide +kernel)]; kernel_rfl) | (rw [if_neg (by decide +kernel)]; exact ⟨rfl, rfl⟩))
    (fun os started H enc _ F => by rw [OpenClaim.pre_eq_preRow]; exact fnQuantization_lifted os started H enc F)

theorem fnQuantization_plain (f : FuncId) (fn : Func) (hf : Tryd.pinned.checked.prog.funcNamed "jpegcodec/laws.FnQuantization" = some f) (hfn : Tryd.pinned.checked.prog.funcs[f]? = some fn) :
    true = Tryd.pinned.checked.prog.looks [] ∧ ∀ (j : Nat) t, fn.params[j]? = some t → Tryd.pinned.checked.prog.wantsStandIn t = false := by
  obtain rfl : f = 3 := Option.some.inj ((show Tryd.prog.funcNamed "jpegcodec/laws.FnQuantization" = some 3 by kernel_rfl).symm.trans hf) |>.symm
  obtain rfl : fn = Tryd.f3 := (Option.some.inj (Tryd.func3.symm.trans hfn)).symm
  refine ⟨by kernel_rfl, fun j t ht => ?_⟩
  rw [Tryd.params3] at ht
  obtain rfl : t = 22 := by simpa using Array.mem_of_getElem? ht
  exact (show Tryd.prog.wantsStandIn 22 = false by kernel_rfl)

/-- THE CARD. -/
theorem fnQuantization_card : Rows.FnQuantizationCardSaid :=
  Claim7.holds_tied_plain_at .later [] _ _ _ _ fnQuantization_said (fun _ h => by cases h) (by kernel_rfl) (fun _ h => by cases h) fnQuantization_row_tie rfl ⟨rfl, rfl⟩ (by kernel_rfl) rfl fnQuantization_plain (by kernel_rfl)
#print axioms fnQuantization_card
end Go.Proofs.YtkkplbfbhmlnoaaDoor
