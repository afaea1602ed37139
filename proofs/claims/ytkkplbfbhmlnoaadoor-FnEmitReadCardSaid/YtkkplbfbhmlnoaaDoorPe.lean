/- ZZEmit and impl.Emit: the bytes that they return. Conditions: the arguments are slices of as many codes as lengths, at most 2147483647, each code of 1 to 16 bits. -/
import Derived.Test.YtkkplbfbhmlnoaaDoorPb
import Derived.Test.YtkkplbfbhmlnoaaDoorPd
namespace Go.Proofs.YtkkplbfbhmlnoaaDoor
open Go.RowKit

def eF (g : Nat) : Nat → Value := fun k => if k < 1 then .iface 119 (.agg #[.pointer (some ⟨g, 0, none⟩)]) else if k < 2 then .nilIface else if k < 18 then .int .u8 0 else if k < 20 then .int .u32 0 else if k < 148 then .int .u8 0 else .slice none 0 0
def eZ : Nat → Value := fun k => if k < 2 then .nilIface else if k < 18 then .int .u8 0 else if k < 20 then .int .u32 0 else if k < 148 then .int .u8 0 else .slice none 0 0
theorem build_enc (g : Nat) (w : World) : (Instr.build 128 #[(0, .iface 119 (.agg #[.pointer (some ⟨g, 0, none⟩)]))]).run Tryd.prog w = .ok (.agg (arr 152 (eF g))) w := by kernel_rfl
theorem run_alloc128 (w : World) : (Instr.alloc 128 true (.tuple #[])).run Tryd.prog w = .ok (.pointer (some ⟨w.heap.size, 0, none⟩)) (w.alloc (.cells (arr 152 eZ) 128)) := by kernel_rfl
theorem arrT128 : ArrT Tryd.prog 128 152 := ⟨fun w => by kernel_rfl, fun w => by kernel_rfl⟩
section
variable {w : World} {ops : Array Oper} {rest : List Oper} {o : Oper} {a : Act} {Q : Exit → Act → World → Prop}
theorem wpList_build128 (hgd : o.guard = none) (x : Operand) (ho : o.op = .build 128 #[(0, x)]) (g : Nat) (hx : a.eval x = .iface 119 (.agg #[.pointer (some ⟨g, 0, none⟩)]))
    (h : wpList Tryd.prog ops Q rest (a.put o.dst (.agg (arr 152 (eF g)))) w) : wpList Tryd.prog ops Q (o :: rest) a w := by
  refine wpList_value hgd (v := .agg (arr 152 (eF g))) (w' := w) ?_ h
  unfold execOp
  simp only [ho]
  have := build_enc g w
  rw [← hx] at this
  simp [Sem.run_bind, this]
theorem wpList_alloc128 (hgd : o.guard = none) (ho : o.op = .alloc 128) (h : wpList Tryd.prog ops Q rest (a.put o.dst (.pointer (some ⟨w.heap.size, 0, none⟩))) (w.alloc (.cells (arr 152 eZ) 128))) : wpList Tryd.prog ops Q (o :: rest) a w := by
  refine wpList_value hgd (v := .pointer (some ⟨w.heap.size, 0, none⟩)) (w' := w.alloc (.cells (arr 152 eZ) 128)) ?_ h
  unfold execOp
  simp only [ho]
  simp [Sem.run_bind, run_alloc128 w]
end

theorem heap_setCells : ∀ (vs : List Value) (o b : Nat) (W : World) (cs : Array Value) (T : TypeId) (fz : Nat × Nat), W.heap[b]? = some (.cells cs T fz) → ∃ cs', (W.setCells b o vs).heap[b]? = some (.cells cs' T fz)
  | [], _, _, _, cs, _, _, h => ⟨cs, h⟩
  | v :: vs, o, b, W, cs, T, fz, h => heap_setCells vs (o + 1) b _ _ T fz (Lib.heap_setCell_same (i := o) h v)

abbrev encW0 (w : World) (gb : Nat) : World := ((w.alloc (.cells #[.slice none 0 0, .int .i64 0, .int .i8 0] 116)).alloc (.cells (arr 152 eZ) 128)).setCells (gb + 1) 0 ((List.range 152).map (eF gb))

theorem enc_new {w : World} {gb : Nat} (hg : w.heap.size = gb) : EncW w (encW0 w gb) gb (gb + 1) 0 0 := by
  have h1 : (w.alloc (.cells #[.slice none 0 0, .int .i64 0, .int .i8 0] 116)).heap[gb]? = some (.cells #[.slice none 0 0, .int .i64 0, .int .i8 0] 116 (0, 0)) := by rw [← hg]; exact heap_alloc_new w _
  have s1 : (w.alloc (.cells #[.slice none 0 0, .int .i64 0, .int .i8 0] 116)).heap.size = gb + 1 := by rw [World.size_alloc, hg]
  have h2 := heap_alloc_new (w.alloc (.cells #[.slice none 0 0, .int .i64 0, .int .i8 0] 116)) (.cells (arr 152 eZ) 128)
  rw [s1] at h2
  obtain ⟨cs', h3⟩ := heap_setCells ((List.range 152).map (eF gb)) 0 (gb + 1) _ _ _ _ h2
  have B0 := Blk.ofNew (w.alloc (.cells #[.slice none 0 0, .int .i64 0, .int .i8 0] 116)) (arr 152 eZ) 128 152 _ (fun k hk => arr_get _ _ _ hk)
  rw [s1] at B0
  have B1 := B0.setCells 0 ((List.range 152).map (eF gb)) (by simp)
  have cell : ∀ k, k < 152 → cs'[k]? = some (eF gb k) := fun k hk => by
    have e1 := B1.cell k hk
    rw [Lib.cell_of_heap h3] at e1
    rw [e1]
    have := updRow_in eZ 0 ((List.range 152).map (eF gb)) k (by simp; omega)
    rw [Nat.zero_add] at this
    rw [this]
    simp
  have C : Chg (fun k => k = gb + 1) (w.alloc (.cells #[.slice none 0 0, .int .i64 0, .int .i8 0] 116)) (encW0 w gb) := Chg.setCells (S := fun k => k = gb + 1) (gb + 1) (fun _ => rfl) _ _ _ ((Chg.refl _ _).alloc _)
  have CW : Chg (fun _ => False) w (encW0 w gb) := ((Chg.refl _ w).alloc _).transNew C (fun i hi e => by omega)
  refine ⟨[], 0, 0, WSt.zero, by decide, ⟨⟨Nat.le_refl _, .slice none 0 0, 0, ?_, World.ownsRow_nil _ _ _ _, by simp [Value.ownBlock]⟩, ⟨cs', h3, cell 0 (by decide), cell 1 (by decide), ?_, cell 19 (by decide)⟩, CW.below (by omega) (fun _ _ h => h), hg.symm, by omega⟩⟩
  · rw [C.block gb (by omega) (by omega)]; exact h1
  · rw [Nat.zero_mul]; exact cell 18 (by decide)

def EmitPost (w : World) (l : List (Nat × Nat)) (e : Ending) (w' : World) : Prop :=
  Chg (fun _ => False) w w' ∧ ∃ xs q V v, WSt xs q V (wlen l + 7) (wcat l * 128 + 127) ∧ q < 8 ∧ e = .returned v ∧ w'.ownsRow w.heap.size 5 1 v (wstuff xs).length ((wstuff xs).map bv)

theorem EncW.chg {w W : World} {gb eb N T : Nat} (h : EncW w W gb eb N T) : Chg (fun _ => False) w W := by
  obtain ⟨xs, q, V, _, _, hE⟩ := h.st
  have := hE.bel
  rw [hE.gw] at this
  exact Chg.ofBelow this _

theorem wlen_le : ∀ (l : List (Nat × Nat)), (∀ p ∈ l, p.2 ≤ 16) → wlen l ≤ 16 * l.length
  | [], _ => Nat.le_refl _
  | p :: l, h => by
    have := wlen_le l (fun y hy => h y (List.mem_cons_of_mem _ hy))
    have := h p (List.mem_cons_self ..)
    simp only [wlen, List.length_cons]
    omega

set_option maxRecDepth 100000 in
set_option maxHeartbeats 4000000 in
theorem zzEmit (cb nb : Option Addr) (cc nc : Nat) (cs ns : List Nat) (w : World) (hcc : cs.length ≤ cc) (hnc : cs.length ≤ nc) (hl : cs.length ≤ 2147483647) (hle : cs.length = ns.length) (hr : Row w (fun k => k < w.heap.size) .u32 cb cs) (hr2 : Row w (fun k => k < w.heap.size) .u32 nb ns)
    (hcode : ∀ i (h1 : i < cs.length) (h2 : i < ns.length), isCode cs[i] ns[i]) :
    Calls Tryd.prog 24 #[.slice cb cs.length cc, .slice nb cs.length nc] w (EmitPost w (cs.zip ns)) := by
  obtain ⟨N, hcN⟩ : ∃ N, cs.length = N := ⟨_, rfl⟩
  have hnN : ns.length = N := by omega
  have HIN := Lib.hid (And.intro hr (And.intro hr2 (And.intro hcode (And.intro hcN hnN))))
  obtain ⟨gb, hgb⟩ : ∃ gb, w.heap.size = gb := ⟨_, rfl⟩
  have hN : N ≤ 2147483647 := by omega
  have hNi : (N : Int) ≤ 2147483647 := by omega
  rw [hcN]
  have START := Lib.hid (enc_new hgb)
  have CS : Hid (∀ k, k < 152 → (((w.alloc (.cells #[.slice none 0 0, .int .i64 0, .int .i8 0] 116)).alloc (.cells (arr 152 eZ) 128)).cell? ⟨gb + 1, 0 + k, none⟩).isSome = true) := fun k hk => by
    have B0 := Blk.ofNew (w.alloc (.cells #[.slice none 0 0, .int .i64 0, .int .i8 0] 116)) (arr 152 eZ) 128 152 _ (fun k hk => arr_get _ _ _ hk)
    rw [World.size_alloc, hgb] at B0
    rw [Nat.zero_add, B0.cell k hk]; rfl
  have FS : Hid (∀ k, k < 152 → ((w.alloc (.cells #[.slice none 0 0, .int .i64 0, .int .i8 0] 116)).alloc (.cells (arr 152 eZ) 128)).frozen? ⟨gb + 1, 0 + k, none⟩ = false) := fun k hk => by
    have B0 := Blk.ofNew (w.alloc (.cells #[.slice none 0 0, .int .i64 0, .int .i8 0] 116)) (arr 152 eZ) 128 152 _ (fun k hk => arr_get _ _ _ hk)
    rw [World.size_alloc, hgb] at B0
    exact B0.free _
  have O1 : Hid (∀ k, k < 152 → (eF gb k).oneCell' = true) := fun k hk => by unfold eF; (repeat' split) <;> rfl
  clear hr hr2 hcode hcN hnN hle hl hcc hnc
  go_enter Tryd.func24, Tryd.ntmps24
  have al : Hid (∀ {a : Act} {ops : Array Oper} {rest : List Oper} {o : Oper} {Q : Exit → Act → World → Prop}, o.guard = none → o.op = .alloc 128 → wpList Tryd.prog ops Q rest (a.put o.dst (.pointer (some ⟨gb + 1, 0, none⟩))) ((w.alloc (.cells #[.slice none 0 0, .int .i64 0, .int .i8 0] 116)).alloc (.cells (arr 152 eZ) 128)) → wpList Tryd.prog ops Q (o :: rest) a (w.alloc (.cells #[.slice none 0 0, .int .i64 0, .int .i8 0] 116))) := by
    intro a ops rest o Q h1 h2 h3
    refine wpList_alloc128 h1 h2 ?_
    rw [World.size_alloc, hgb]
    exact h3
  go_wp2_with (first | (refine wpList_build128 ?_ (.tmp 10) ?_ gb ?_ ?_; exact rfl; exact rfl; exact rfl; simp only [Act.put, List.setIfInBounds_toArray, List.set]) | (refine al.out rfl rfl ?_; simp only [Act.put, List.setIfInBounds_toArray, List.set]) | (refine wpList_storeArr (g := gb + 1) (o' := 0) ?_ arrT128 (.tmp 6) (.tmp 11) ?_ ?_ (eF gb) ?_ ?_ ?_ O1.out ?_; exact rfl; exact rfl; exact rfl; exact rfl; exact CS.out; exact FS.out; simp only [Act.put, List.setIfInBounds_toArray, List.set]; refine cutG (fun W => EncW w W gb (gb + 1) 0 0) START.out ?_; intro W1 hW1; have HW1 := Lib.hid hW1; clear hW1))
  clear START CS FS O1 al
  obtain ⟨l, hl⟩ : ∃ l, cs.zip ns = l := ⟨_, rfl⟩
  have HL : Hid (l.length = N ∧ (∀ i (h : i < l.length) (h1 : i < cs.length) (h2 : i < ns.length), l[i] = (cs[i], ns[i])) ∧ ∀ p ∈ l, p.2 ≤ 16) := by
    subst hl
    refine ⟨by rw [List.length_zip, HIN.out.2.2.2.1, HIN.out.2.2.2.2, Nat.min_self], fun i h h1 h2 => List.getElem_zip, fun p hp => ?_⟩
    obtain ⟨i, hi, rfl⟩ := List.getElem_of_mem hp
    rw [List.getElem_zip]
    rw [List.length_zip] at hi
    exact (HIN.out.2.2.1 i (by omega) (by omega)).2.1
  have HLQ := Lib.hid hl
  clear hl
  go_loopg [14] N (fun gk v14 wr => ∃ i : Nat, v14 = .int .i64 (i : Int) ∧ i + gk = N ∧ Hid (EncW w wr gb (gb + 1) (wlen (l.take i)) (wcat (l.take i))))
  case atStart => exact ⟨0, rfl, by omega, HW1.out⟩
  case round =>
    clear HW1
    obtain ⟨i, rfl, hik, HI⟩ := hrel
    have HCW := Lib.hid HI.out.chg
    have HB : Hid (wlen (l.take i) ≤ 34359738368) := by
      have h1 := wlen_le (l.take i) (fun p hp => HL.out.2.2 p (List.mem_of_mem_take hp))
      have h2 : (l.take i).length ≤ N := by rw [List.length_take, HL.out.1]; omega
      exact (show wlen (l.take i) ≤ 34359738368 by omega)
    by_cases hi : i < N
    · have d1 : decide (i < N) = true := by simp; omega
      have hi1 : i < cs.length := by rw [HIN.out.2.2.2.1]; exact hi
      have hi2 : i < ns.length := by rw [HIN.out.2.2.2.2]; exact hi
      obtain ⟨g1, o1, rfl, hg1, k1⟩ := (HIN.out.1.chg HCW.out (fun _ _ h => h)).at i hi1
      obtain ⟨g2, o2, rfl, hg2, k2⟩ := (HIN.out.2.1.chg HCW.out (fun _ _ h => h)).at i hi2
      obtain ⟨hn1, hn16, hc2⟩ := HIN.out.2.2.1 i hi1 hi2
      obtain ⟨c, hc⟩ : ∃ c, cs[i] = c := ⟨_, rfl⟩
      obtain ⟨n, hn⟩ : ∃ n, ns[i] = n := ⟨_, rfl⟩
      rw [hc] at k1 hc2
      rw [hn] at k2 hn1 hn16 hc2
      have HE := Lib.hid (emit_any w wr gb (gb + 1) _ _ c n HI.out hc2 hn1 hn16 (by have := HB.out; omega))
      have TK : Hid (l.take (i + 1) = l.take i ++ [(c, n)]) := by
        have h1 : i < l.length := by rw [HL.out.1]; exact hi
        have h2 := HL.out.2.1 i h1 hi1 hi2
        rw [hc, hn] at h2
        rw [← h2]
        exact (List.take_append_getElem h1).symm
      clear hc hn hc2
      go_wp2_with fail
      refine HE.out.mono ?_
      rintro e W2 ⟨rfl, hE2⟩
      have FIN : Hid (EncW w W2 gb (gb + 1) (wlen (l.take (i + 1))) (wcat (l.take (i + 1)))) := by rw [TK.out, wlen_snoc, wcat_snoc]; exact hE2
      clear hE2 HE
      go_wp2_with fail
      go_roundg (gk - 1)
      case measure => omega
      case rel => exact ⟨i + 1, by go_num, by omega, FIN⟩
    · have d1 : decide (i < N) = false := by simp; omega
      have HE := Lib.hid (emit_any w wr gb (gb + 1) _ _ 127 7 HI.out (by decide) (by decide) (by decide) (by have := HB.out; omega))
      have TK : Hid (l.take i = l) := List.take_of_length_le (by rw [HL.out.1]; omega)
      clear HB
      go_wp2_with fail
      refine HE.out.mono ?_
      rintro e W2 ⟨rfl, hE2⟩
      rw [TK.out] at hE2
      have HC2 := Lib.hid hE2.chg
      obtain ⟨xs, q, V, hS, hq, hE⟩ := hE2.st
      have BY := Lib.hid (bytes_laid gb gb _ W2 hE.buf)
      have HS := Lib.hid (And.intro hS hq)
      clear hE2 hS hq hE HE
      go_wp2_with fail
      refine BY.out.mono ?_
      rintro e W3 ⟨v, rfl, hown, nd, rfl⟩
      have FIN : Hid (EmitPost w (cs.zip ns) (.returned v) (W2.drewN nd)) := by
        rw [HLQ.out]
        exact ⟨HC2.out.drewN nd, xs, q, V, v, HS.out.1, HS.out.2, rfl, by rw [hgb]; rw [List.length_map] at hown; exact hown⟩
      clear hown BY
      go_wp2_with fail
      go_ret
      exact FIN.out

set_option maxRecDepth 100000 in
set_option maxHeartbeats 4000000 in
theorem implEmit (cb nb : Option Addr) (cc nc : Nat) (cs ns : List Nat) (w : World) (hcc : cs.length ≤ cc) (hnc : cs.length ≤ nc) (hl : cs.length ≤ 2147483647) (hle : cs.length = ns.length) (hr : Row w (fun k => k < w.heap.size) .u32 cb cs) (hr2 : Row w (fun k => k < w.heap.size) .u32 nb ns)
    (hcode : ∀ i (h1 : i < cs.length) (h2 : i < ns.length), isCode cs[i] ns[i]) :
    Calls Tryd.prog 12 #[.slice cb cs.length cc, .slice nb cs.length nc] w (EmitPost w (cs.zip ns)) := by
  have Z := Lib.hid (zzEmit cb nb cc nc cs ns w hcc hnc hl hle hr hr2 hcode)
  clear hr hr2 hcode hcc hnc hle hl
  generalize cs.zip ns = l at *
  generalize cs.length = N at *
  go_enter Tryd.func12, Tryd.ntmps12
  go_wp2_with fail
  refine Z.out.mono ?_
  rintro e W2 ⟨hC, xs, q, V, v, hS, hq, rfl, hown⟩
  have FIN : Hid (EmitPost w l (.returned v) W2) := ⟨hC, xs, q, V, v, hS, hq, rfl, hown⟩
  clear hC hS hown Z
  go_wp2_with fail
  go_ret
  exact FIN.out
end Go.Proofs.YtkkplbfbhmlnoaaDoor
