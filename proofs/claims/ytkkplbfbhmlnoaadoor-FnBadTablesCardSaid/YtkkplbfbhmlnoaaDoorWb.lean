/- laws.FnBadTables returns true whatever its arguments, and its arguments read as they did: the tied card. Condition: the row's own (the three listed variables are laid as the program's text lays them). -/
import Derived.Test.YtkkplbfbhmlnoaaDoorWa
import Derived.Test.YtkkplbfbhmlnoaaDoorHe
namespace Go.Proofs.YtkkplbfbhmlnoaaDoor
open Go.ChangeShapes Go.WideShapes Go.ChangeAt Go.RowKit

theorem bytesOf5 : Tryd.checked.prog.bytesOf 5 = 1 := by kernel_rfl
theorem readable22 : Tryd.prog.readableRec 22 = true := by kernel_rfl
theorem readable3 : Tryd.prog.readableRec 3 = true := by kernel_rfl

set_option maxRecDepth 100000 in
theorem fnBadTables_contract (H : Type) (enc : TypeId × Value → H) (W : World) (base : Nat) (args : Array Value) (ds gs : List (DataW H)) (before : List MemPlace)
    (hval0 : ∀ (j : Nat) t v, Tryd.f5.params[j]? = some t → args[j]? = some v → Value.okWide Tryd.prog W .any base t v)
    (hW : DataW.Whole enc Tryd.prog Tryd.f5.params.toList Rows.fnBadTablesSpec.vars false W args.toList ds gs before)
    (hsz : (DataW.weightsEach Tryd.prog (Tryd.f5.params.toList ++ (OpenSpec.ofChange Rows.fnBadTablesSpec).bare.plain.varTypes Tryd.prog) (ds ++ gs)).all (· ≤ reachBytes) = true)
    (hL : laidMetH Tryd.prog Rows.fnBadTablesRow.laid W) :
    Calls Tryd.prog 5 args W fun e W' => ∃ v, e = .returned v ∧ Rows.fnBadTablesSpec.post enc Tryd.prog Tryd.f5 false true false false W args v W' := by
  have hW' := hW
  obtain ⟨p, q, hA0, hV, rfl, hfz, hnd⟩ := hW
  have hA : DataW.TrodAll enc Tryd.prog W 0 (fun _ => true) true Tryd.f5.params.toList args.toList ds p := hA0
  have hval := hval0
  rw [Tryd.params5] at hA hval hsz
  obtain ⟨v0, vs0, d0, ds0, p0, q0, hargs, rfl, rfl, h0, r0⟩ := trodAll_cons hA
  obtain ⟨v1, vs1, d1, ds1, p1, q1, rfl, rfl, rfl, h1, r1⟩ := trodAll_cons r0
  obtain ⟨v2, vs2, d2, ds2, p2, q2, rfl, rfl, rfl, h2, r2⟩ := trodAll_cons r1
  obtain ⟨v3, vs3, d3, ds3, p3, q3, rfl, rfl, rfl, h3, r3⟩ := trodAll_cons r2
  obtain ⟨rfl, rfl, rfl⟩ := trodAll_nil r3
  obtain rfl : args = #[v0, v1, v2, v3] := by cases args; simp_all
  obtain ⟨rfl, rfl⟩ := trodVars_none hV
  have hs0 : ∀ elems spare, d0 = .slice elems spare → elems.length + spare.length ≤ reachBytes := fun elems spare e => by
    have := sized_slice (j := 0) hsz rfl (by rw [e]; rfl) Tryd.underlying22
    rw [show Tryd.prog.bytesOf 5 = 1 from bytesOf5] at this
    omega
  have hs3 : ∀ elems spare, d3 = .slice elems spare → elems.length + spare.length ≤ reachBytes := fun elems spare e => by
    have := sized_slice (j := 3) hsz rfl (by rw [e]; rfl) Tryd.underlying22
    rw [show Tryd.prog.bytesOf 5 = 1 from bytesOf5] at this
    omega
  obtain ⟨b, cap, l, rfl, hc, hm, hb⟩ := open_bytes (hval 0 22 v0 rfl rfl) h0 hs0
  obtain ⟨c, rfl⟩ := okWide_int Tryd.underlying3 (hval 1 3 v1 rfl rfl)
  obtain ⟨n, rfl⟩ := okWide_int Tryd.underlying3 (hval 2 3 v2 rfl rfl)
  obtain ⟨b3, cap3, l3, rfl, hc3, hm3, hb3⟩ := open_bytes (hval 3 22 v3 rfl rfl) h3 hs3
  obtain ⟨a1, a2, hG⟩ := glob_of_laid hL
  refine (lawBad a1 a2 b cap l c n b3 l3.length cap3 W hG hc hm hb hc3 hm3).mono fun e W' ⟨he, hC⟩ => ?_
  subst he
  have hBl : Below W.heap.size W W' := hC.below (Nat.le_refl _) (fun _ _ h => h)
  have hlt : ∀ x ∈ p0 ++ (p1 ++ (p2 ++ (p3 ++ []))), x.block < W.heap.size := fun x hx => hW'.lt x (by simpa using hx)
  have l0 : ∀ x ∈ p0, x.block < W.heap.size := fun x hx => hlt x (by simp [hx])
  have l1 : ∀ x ∈ p1, x.block < W.heap.size := fun x hx => hlt x (by simp [hx])
  have l2 : ∀ x ∈ p2, x.block < W.heap.size := fun x hx => hlt x (by simp [hx])
  have l3 : ∀ x ∈ p3, x.block < W.heap.size := fun x hx => hlt x (by simp [hx])
  have s22 : (22 : Nat) < Tryd.prog.types.size := of_decide_eq_true (by kernel_rfl)
  have s3 : (3 : Nat) < Tryd.prog.types.size := of_decide_eq_true (by kernel_rfl)
  exact ⟨_, rfl, _, _, _, [], p0 ++ (p1 ++ (p2 ++ (p3 ++ []))), [], hW', trodAll_mk1 (shut_bool Tryd.underlying4 true),
    trodAll_cons_mk (Below.trod laidOut readable22 s22 h0 hBl l0) (trodAll_cons_mk (Below.trod laidOut readable3 s3 h1 hBl l1) (trodAll_cons_mk (Below.trod laidOut readable3 s3 h2 hBl l2) (trodAll_cons_mk (Below.trod laidOut readable22 s22 h3 hBl l3) trodAll_mk0))), rfl, hBl.frame _, fun h => by cases h⟩

abbrev wit5 : Array Value := #[.slice none 0 0, .int .i64 0, .int .i64 0, .slice none 0 0]
theorem fnBadTables_reads (os : Os) {H : Type} (enc : TypeId × Value → H) : ∃ places, DataW.whole enc Tryd.prog ((laidWorld os).forCall (fun _ _ => 0) ⟨#[], wit5, []⟩).memory Tryd.f5.params.toList Rows.fnBadTablesSpec.vars false wit5.toList 8 = some ([.nil, .lit (.int .i64 0), .lit (.int .i64 0), .nil], [], places) :=
  ⟨[], by kernel_rfl⟩

set_option maxRecDepth 100000 in
theorem fnBadTables_lifted (os : Os) (started : os.Started) (H : Type) (enc : TypeId × Value → H) (F : Stop.Interp) :
    ReturnsInHanded {} Tryd.checked os 5 .any ((OpenSpec.ofChange Rows.fnBadTablesSpec).preRow enc Tryd.prog Tryd.f5 Rows.fnBadTablesRow.domain false Rows.fnBadTablesRow.laid) (((OpenSpec.ofChange Rows.fnBadTablesSpec).at F).post enc Tryd.prog Tryd.f5 false true false false) := by
  obtain ⟨places, hx⟩ := fnBadTables_reads os enc
  refine returnsInHanded_of_row (C := Tryd.checked) (s := OpenSpec.ofChange Rows.fnBadTablesSpec) own started (by kernel_rfl) Tryd.func5
    (witness_row_atRef (enc := enc) (C := Tryd.checked) false (laidWorld os) wit5 rfl (by kernel_rfl) (by kernel_rfl) (by kernel_rfl)
      (OpenSpec.preRow_of_cond 8 hx (by kernel_rfl) (fun k hk => by cases hk) (by kernel_rfl) (laidWorld_met os _))) ?_
  intro W base args ds gs before hval hW _ _ hsz hL _ _
  exact fnBadTables_contract H enc W base args ds gs before hval hW hsz hL

theorem fnBadTables_said : Rows.FnBadTablesSaid :=
  OpenClaim.holds_of_cond 5 Tryd.f5 rfl rfl rfl rfl rfl rfl rfl ⟨rfl, rfl, rfl, rfl, rfl⟩ rfl rfl rfl rfl rfl (by kernel_rfl) Tryd.func5 (by kernel_rfl)
    (of_decide_eq_true (by kernel_rfl)) (by unfold Func.isWrapper; first | (rw [if_pos (by decide +kernel)]; kernel_rfl) | (rw [if_neg (by decide +kernel)]; exact ⟨rfl, rfl⟩))
    (fun os started H enc _ F => by rw [OpenClaim.pre_eq_preRow]; exact fnBadTables_lifted os started H enc F)

theorem fnBadTables_plain (f : FuncId) (fn : Func) (hf : Tryd.pinned.checked.prog.funcNamed "jpegcodec/laws.FnBadTables" = some f) (hfn : Tryd.pinned.checked.prog.funcs[f]? = some fn) :
    true = Tryd.pinned.checked.prog.looks [] ∧ ∀ (j : Nat) t, fn.params[j]? = some t → Tryd.pinned.checked.prog.wantsStandIn t = false := by
  obtain rfl : f = 5 := Option.some.inj ((show Tryd.prog.funcNamed "jpegcodec/laws.FnBadTables" = some 5 by kernel_rfl).symm.trans hf) |>.symm
  obtain rfl : fn = Tryd.f5 := (Option.some.inj (Tryd.func5.symm.trans hfn)).symm
  refine ⟨by kernel_rfl, fun j t ht => ?_⟩
  rw [Tryd.params5] at ht
  have hm := Array.mem_of_getElem? ht
  simp at hm
  rcases hm with rfl | rfl | rfl
  · exact (show Tryd.prog.wantsStandIn 22 = false by kernel_rfl)
  · exact (show Tryd.prog.wantsStandIn 3 = false by kernel_rfl)
  · exact (show Tryd.prog.wantsStandIn 22 = false by kernel_rfl)

/-- THE CARD. -/
theorem fnBadTables_card : Rows.FnBadTablesCardSaid :=
  Claim7.holds_tied_plain_at .later [] _ _ _ _ fnBadTables_said (fun _ h => by cases h) (by kernel_rfl) (fun _ h => by cases h) fnBadTables_row_tie rfl ⟨rfl, rfl⟩ (by kernel_rfl) rfl fnBadTables_plain (by kernel_rfl)
#print axioms fnBadTables_card
end Go.Proofs.YtkkplbfbhmlnoaaDoor
